import JvmDerived
import JvmDerived.Pilot.@@N@@Statement
import JvmDerived.Pilot.@@N@@Code
set_option linter.unusedVariables false
set_option linter.unusedSimpArgs false
namespace Jvm.RoadKit
open Sem ClassFile Op Lib Jvm.Stand Jvm.Free Jvm.LawKit
section New
variable {p : Program} {l : Launch} {e : Env} {R : Room} {s : State} {m : MethodId} {args : Array Value} {below : List Frame} {meth : Method} {c : Code} {T : State} {locs : List Loc} {cells slots : Nat}
theorem retI (X : Stand p l e R s m args below meth c T locs cells slots) (hx : p.tables.exec = Jvm.exec) {pc : Nat} {Ls : Array Slot} {z : Int32} {rest : List Value} (hret : meth.sig.returnType = some .int) (hd : decode c.code pc = .ok (.ireturn, 1)) {fs : List Frame}
    (hl : ∀ (f : JFrame) (acts : List Action), f.method = m → f.locked = none → f.entered = [] → (doReturn e (T.setTop f) acts (some (.int z))).1 = T.setFrames fs) : Steps p.tables e below (T.setTop (mkF m pc Ls (.int z :: rest))) (T.setFrames fs) := by
  have hm' : T.vm.method? m = some meth := X.method'
  have hn : narrow .int (.int z) = .int z := rfl
  show Steps p.tables e below (T.setTop { method := m, pc := pc, locals := Ls, stack := _ :: rest, locked := none }) _
  jvm_step X.here [X.here.top, hx, hd, hm', hret, hn]
  first | (intro acts; rw [hl _ acts rfl rfl rfl]) | rw [hl _ _ rfl rfl rfl]
  exact Steps.refl _
end New
end Jvm.RoadKit
/- laws to paste: Road.back (cut by pick.py; bodies as the Statement names them) -/
namespace Jvm.Pilot.@@N@@
namespace StrChars
open Jvm Sem ClassFile Op Lib Jvm.Stand Jvm.Free.XT Jvm.Free.ALB Jvm.Free.JM Jvm.Free
open Jvm.Lib.Cold (StaticIs)
/-- a char array whose places are chars -/
def Ch (a : Addr) (A : Cell) (U : State) : Prop := Arr .char a A U ∧ Typed .char A
theorem Ch.mv {a : Addr} {A : Cell} {U U' : State} (h : Ch a A U) (hal : U.vm.Alike U'.vm) (hh : U'.heap = U.heap) : Ch a A U' := ⟨h.1.mv hal hh, h.2⟩
theorem Ch.keep {a : Addr} {A : Cell} {U U' : State} (h : Ch a A U) (hal : U.vm.Alike U'.vm) (hk : U'.heap[a]? = some A) : Ch a A U' := ⟨h.1.keep hal hk, h.2⟩
/-- what place i of a char[]'s cell holds -/
def cv (A : Cell) (i : Nat) : Int32 := match A.slots[i]? with | some (.int x) => x | _ => 0
theorem Ch.get {a : Addr} {A : Cell} {U : State} (h : Ch a A U) {i : Nat} (hi : i < A.slots.size) : A.slots[i]? = some (.int (cv A i)) := by
  have e := Array.getElem?_eq_getElem hi
  have f := h.2 i _ e
  unfold cv; rw [e]
  generalize A.slots[i] = v at f
  cases v <;> simp [fits] at f ⊢
/-- the byte that i2b leaves of a char -/
def lo8 (x : Int32) : Int32 := x.toInt8.toInt32
theorem fits_lo8 (y : Int32) : fits .byte (.int (lo8 y)) = true := by
  have h1 := y.toInt8.le_toInt
  have h2 := y.toInt8.toInt_lt
  simp only [lo8, fits, Bool.and_eq_true, decide_eq_true_eq, Int32.le_iff_toInt_le, Int8.toInt_toInt32, show (-128 : Int32).toInt = -128 from by decide, show (127 : Int32).toInt = 127 from by decide]
  omega
/-- A' is A but that each place j of lo .. hi - 1 holds f j -/
def Laid (A A' : Cell) (lo hi : Nat) (f : Nat → Value) : Prop := A'.cls = A.cls ∧ A'.vm = A.vm ∧ A'.slots.size = A.slots.size ∧ ∀ i, A'.slots[i]? = if lo ≤ i ∧ i < hi then some (f i) else A.slots[i]?
theorem Laid.zero (A : Cell) (lo : Nat) (f : Nat → Value) : Laid A A lo (lo + 0) f := ⟨rfl, rfl, rfl, fun i => by rw [if_neg (by omega)]⟩
theorem Laid.step {A Ak : Cell} {lo k : Nat} {f : Nat → Value} {v : Value} (h : Laid A Ak lo k f) (hlo : lo ≤ k) (hk : k < Ak.slots.size) (hv : v = f k) : Laid A (Ak.setSlot k v) lo (k + 1) f := by
  refine ⟨h.1, h.2.1, by simpa [Cell.setSlot] using h.2.2.1, fun i => ?_⟩
  by_cases e : k = i
  · subst e; rw [Cell.slots_setSlot_self v hk, if_pos (by omega), hv]
  · rw [Cell.slots_setSlot_ne v e, h.2.2.2 i]
    by_cases q : lo ≤ i ∧ i < k
    · rw [if_pos q, if_pos (by omega)]
    · rw [if_neg q, if_neg (by omega)]
def U16 : String := "java/lang/StringUTF16"
namespace Cmp5
def yN : MethodName := ⟨"java/lang/StringUTF16", "compress", "([CI[BII)I"⟩
abbrev yB : ByteArray := jdk_52_method_21_code
theorem d0 : decode yB 0 = .ok (.iconst 0, 1) := by decide +kernel
theorem d1 : decode yB 1 = .ok (.istore 5, 2) := by decide +kernel
theorem d3 : decode yB 3 = .ok (.iload 5, 2) := by decide +kernel
theorem d5 : decode yB 5 = .ok (.iload 4, 2) := by decide +kernel
theorem d7 : decode yB 7 = .ok (.if_icmp (.ge) 37, 3) := by decide +kernel
theorem d10 : decode yB 10 = .ok (.aload_n 0, 1) := by decide +kernel
theorem d11 : decode yB 11 = .ok (.iload_n 1, 1) := by decide +kernel
theorem d12 : decode yB 12 = .ok (.caload, 1) := by decide +kernel
theorem d13 : decode yB 13 = .ok (.istore 6, 2) := by decide +kernel
theorem d15 : decode yB 15 = .ok (.iload 6, 2) := by decide +kernel
theorem d17 : decode yB 17 = .ok (.sipush 255, 3) := by decide +kernel
theorem d20 : decode yB 20 = .ok (.if_icmp (.le) 6, 3) := by decide +kernel
theorem d26 : decode yB 26 = .ok (.aload_n 2, 1) := by decide +kernel
theorem d27 : decode yB 27 = .ok (.iload_n 3, 1) := by decide +kernel
theorem d28 : decode yB 28 = .ok (.iload 6, 2) := by decide +kernel
theorem d30 : decode yB 30 = .ok (.i2b, 1) := by decide +kernel
theorem d31 : decode yB 31 = .ok (.bastore, 1) := by decide +kernel
theorem d32 : decode yB 32 = .ok (.iinc 1 1, 3) := by decide +kernel
theorem d35 : decode yB 35 = .ok (.iinc 3 1, 3) := by decide +kernel
theorem d38 : decode yB 38 = .ok (.iinc 5 1, 3) := by decide +kernel
theorem d41 : decode yB 41 = .ok (.goto (-38), 3) := by decide +kernel
theorem d44 : decode yB 44 = .ok (.iload 4, 2) := by decide +kernel
theorem d46 : decode yB 46 = .ok (.ireturn, 1) := by decide +kernel
def site : List Cond := []
def tab : Cond := tabOf yN yB 7 (some .int) site
def P (b : Addr) (A : Cell) (d : Addr) (B : Cell) (o q len : Nat) (args : Array Value) (s : State) : Prop := args = #[.ref b, .int (Int32.ofNat o), .ref d, .int (Int32.ofNat q), .int (Int32.ofNat len)] ∧ Ch b A s ∧ Arr .byte d B s ∧ b ≠ d ∧ o + len ≤ A.slots.size ∧ q + len ≤ B.slots.size ∧ ∀ i, i < len → ¬ 255 < cv A (o + i)
def E (b : Addr) (A : Cell) (d : Addr) (B : Cell) (o q len : Nat) (r : Option Value) (s u : State) : Prop := r = some (.int (Int32.ofNat len)) ∧ ∃ B', Put d B' s u ∧ Laid B B' q (q + len) (fun j => Value.int (lo8 (cv A (o + (j - q)))))
/-- no char of the range above 255: len; the places written hold each char's low byte -/
theorem law (l : Launch) (b : Addr) (A : Cell) (d : Addr) (B : Cell) (o q len : Nat) : Law l yN 5 5 0 0 yB 7 (some .int) site (P b A d B o q len) (E b A d B o q len) (copyLocs d q len) 0 0 := by
  refine Law.of_walk (plainFor_of_name (by decide +kernel)) (by decide +kernel) (by decide +kernel) (by decide) (fun _ _ h => by rw [h.1]; rfl) (fun _ U U' hal hh h => ⟨h.1, h.2.1.mv hal hh, h.2.2.1.mv hal hh, h.2.2.2⟩) (fun r U U' V V' h1 hal h2 h => ⟨h.1, h.2.elim fun B' q => ⟨B', q.1.mv h1 h2, q.2⟩⟩) ?_
  intro p e s m args below meth c s₁ X0 hexec hbytes hml hret hlk hnm hown hh0 W hP
  obtain ⟨rfl, hA, hB, hne, l1, l2, hp⟩ := hP
  have c1 : Steps p.tables e below (s₁.setTop (entryFrame m #[.ref b, .int (Int32.ofNat o), .ref d, .int (Int32.ofNat q), .int (Int32.ofNat len)] 7)) (s₁.setTop (mkF m 0 #[.val (.ref b), .val (.int (Int32.ofNat o)), .val (.ref d), .val (.int (Int32.ofNat q)), .val (.int (Int32.ofNat len)), .unset, .unset] [])) := entry rfl
  have hA0 := hA.1.mv X0.warmed.alike hh0
  have hB0 := hB.mv X0.warmed.alike hh0
  have a31 := hA.1.2.2.2
  have c2 : Steps p.tables e below (s₁.setTop (entryFrame m #[.ref b, .int (Int32.ofNat o), .ref d, .int (Int32.ofNat q), .int (Int32.ofNat len)] 7)) (s₁.setTop (mkF m 3 #[.val (.ref b), .val (.int (Int32.ofNat o)), .val (.ref d), .val (.int (Int32.ofNat q)), .val (.int (Int32.ofNat len)), .val (.int 0), .unset] [])) := c1.trans (by
    refine iconstV X0.here hexec rfl 0 (hb hbytes d0) (by decide) ?_
    refine XS.istore X0.here hexec rfl (hb hbytes d1) rfl rfl ?_
    exact Steps.refl _)
  have loop : ∀ (r i : Nat), i + r = len → ∀ (z : Slot), (z = .unset ∨ ∃ w, z = .val w ∧ w.category = 1) → ∀ (Tl : State) (Bk : Cell), Stand p l e { frames := 0, locals := 0, cells := 0, slots := 0 } s m #[.ref b, .int (Int32.ofNat o), .ref d, .int (Int32.ofNat q), .int (Int32.ofNat len)] below meth c Tl ([] ++ copyLocs d q i) 0 0 → Put d Bk s₁ Tl → Laid B Bk q (q + i) (fun j => Value.int (lo8 (cv A (o + (j - q))))) →
      Steps p.tables e below (s₁.setTop (entryFrame m #[.ref b, .int (Int32.ofNat o), .ref d, .int (Int32.ofNat q), .int (Int32.ofNat len)] 7)) (Tl.setTop (mkF m 3 #[.val (.ref b), .val (.int (Int32.ofNat (o + i))), .val (.ref d), .val (.int (Int32.ofNat (q + i))), .val (.int (Int32.ofNat len)), .val (.int (Int32.ofNat i)), z] [])) → ∃ (T' : State) (B' : Cell) (z' : Slot), Stand p l e { frames := 0, locals := 0, cells := 0, slots := 0 } s m #[.ref b, .int (Int32.ofNat o), .ref d, .int (Int32.ofNat q), .int (Int32.ofNat len)] below meth c T' ([] ++ copyLocs d q len) 0 0 ∧ Put d B' s₁ T' ∧ Laid B B' q (q + len) (fun j => Value.int (lo8 (cv A (o + (j - q))))) ∧
      Steps p.tables e below (s₁.setTop (entryFrame m #[.ref b, .int (Int32.ofNat o), .ref d, .int (Int32.ofNat q), .int (Int32.ofNat len)] 7)) (T'.setTop (mkF m 3 #[.val (.ref b), .val (.int (Int32.ofNat (o + len))), .val (.ref d), .val (.int (Int32.ofNat (q + len))), .val (.int (Int32.ofNat len)), .val (.int (Int32.ofNat len)), z'] [])) := by
    intro r
    induction r with
    | zero =>
      intro i hi z hz Tl Bk Xl pl fl cl
      have hil : i = len := by omega
      rw [hil] at Xl fl cl
      exact ⟨Tl, Bk, z, Xl, pl, fl, cl⟩
    | succ r ih =>
      intro i hi z hz Tl Bk Xl pl fl cl
      have all := X0.warmed.alike.symm.trans Xl.warmed.alike
      have hAl := hA0.keep all (pl.other hne hA0.1)
      have hBk := hB0.like all pl.1 fl.1 fl.2.1 fl.2.2.1
      have hlt : q + i < Bk.slots.size := by rw [fl.2.2.1]; omega
      have c3 : Steps p.tables e below (s₁.setTop (entryFrame m #[.ref b, .int (Int32.ofNat o), .ref d, .int (Int32.ofNat q), .int (Int32.ofNat len)] 7)) (Tl.setTop (mkF m 12 #[.val (.ref b), .val (.int (Int32.ofNat (o + i))), .val (.ref d), .val (.int (Int32.ofNat (q + i))), .val (.int (Int32.ofNat len)), .val (.int (Int32.ofNat i)), z] [.int (Int32.ofNat (o + i)), .ref b])) := cl.trans (by
        refine XS.iload Xl.here hexec rfl (hb hbytes d3) rfl ?_
        refine XS.iload Xl.here hexec rfl (hb hbytes d5) rfl ?_
        refine XS.icmpNo Xl.here hexec rfl (hb hbytes d7) rfl (ii_ge_f (lt32 (by omega) (by omega))) ?_
        refine XS.aloadN Xl.here hexec rfl (hb hbytes d10) rfl rfl ?_
        refine XS.iloadN Xl.here hexec rfl (hb hbytes d11) rfl ?_
        exact Steps.refl _)
      have c4 : Steps p.tables e below (s₁.setTop (entryFrame m #[.ref b, .int (Int32.ofNat o), .ref d, .int (Int32.ofNat q), .int (Int32.ofNat len)] 7)) (Tl.setTop (mkF m 13 #[.val (.ref b), .val (.int (Int32.ofNat (o + i))), .val (.ref d), .val (.int (Int32.ofNat (q + i))), .val (.int (Int32.ofNat len)), .val (.int (Int32.ofNat i)), z] [.int (cv A (o + i))])) := c3.trans (by
        refine Xl.aget hexec hAl rfl (hA.get (i := o + i) (by omega)) rfl rfl (hb hbytes d12) ?_
        exact Steps.refl _)
      have c5 : Steps p.tables e below (s₁.setTop (entryFrame m #[.ref b, .int (Int32.ofNat o), .ref d, .int (Int32.ofNat q), .int (Int32.ofNat len)] 7)) (Tl.setTop (mkF m 15 #[.val (.ref b), .val (.int (Int32.ofNat (o + i))), .val (.ref d), .val (.int (Int32.ofNat (q + i))), .val (.int (Int32.ofNat len)), .val (.int (Int32.ofNat i)), .val (.int (cv A (o + i)))] [])) := c4.trans (by
        refine XS.istoreS Xl.here hexec rfl (hb hbytes d13) rfl rfl hz ?_
        exact Steps.refl _)
      have c6 : Steps p.tables e below (s₁.setTop (entryFrame m #[.ref b, .int (Int32.ofNat o), .ref d, .int (Int32.ofNat q), .int (Int32.ofNat len)] 7)) (Tl.setTop (mkF m 31 #[.val (.ref b), .val (.int (Int32.ofNat (o + i))), .val (.ref d), .val (.int (Int32.ofNat (q + i))), .val (.int (Int32.ofNat len)), .val (.int (Int32.ofNat i)), .val (.int (cv A (o + i)))] [.int (lo8 (cv A (o + i))), .int (Int32.ofNat (q + i)), .ref d])) := c5.trans (by
        refine XS.iload Xl.here hexec rfl (hb hbytes d15) rfl ?_
        refine sipushV Xl.here hexec rfl 255 (hb hbytes d17) (by decide) ?_
        refine XS.icmpYes Xl.here hexec rfl (pc0 := 20) rfl (hb hbytes d20) rfl (ii_le_t (hp i (by omega))) (by decide) rfl ?_
        refine XS.aloadN Xl.here hexec rfl (hb hbytes d26) rfl rfl ?_
        refine XS.iloadN Xl.here hexec rfl (hb hbytes d27) rfl ?_
        refine XS.iload Xl.here hexec rfl (hb hbytes d28) rfl ?_
        refine i2b Xl.here hexec rfl (hb hbytes d30) rfl ?_
        exact Steps.refl _)
      obtain ⟨T7, X7, p7, st7⟩ := Xl.aput hexec hBk rfl hlt rfl (fits_lo8 (cv A (o + i))) (g := (mkF m 31 #[.val (.ref b), .val (.int (Int32.ofNat (o + i))), .val (.ref d), .val (.int (Int32.ofNat (q + i))), .val (.int (Int32.ofNat len)), .val (.int (Int32.ofNat i)), .val (.int (cv A (o + i)))] [.int (lo8 (cv A (o + i))), .int (Int32.ofNat (q + i)), .ref d])) rfl (rest := []) rfl (hb hbytes d31)
      have c8 : Steps p.tables e below (s₁.setTop (entryFrame m #[.ref b, .int (Int32.ofNat o), .ref d, .int (Int32.ofNat q), .int (Int32.ofNat len)] 7)) (T7.setTop (mkF m 32 #[.val (.ref b), .val (.int (Int32.ofNat (o + i))), .val (.ref d), .val (.int (Int32.ofNat (q + i))), .val (.int (Int32.ofNat len)), .val (.int (Int32.ofNat i)), .val (.int (cv A (o + i)))] [])) := c6.trans (st7 _ (Steps.refl _))
      have c9 : Steps p.tables e below (s₁.setTop (entryFrame m #[.ref b, .int (Int32.ofNat o), .ref d, .int (Int32.ofNat q), .int (Int32.ofNat len)] 7)) (T7.setTop (mkF m 3 #[.val (.ref b), .val (.int (Int32.ofNat (o + i) + 1)), .val (.ref d), .val (.int (Int32.ofNat (q + i) + 1)), .val (.int (Int32.ofNat len)), .val (.int (Int32.ofNat i + 1)), .val (.int (cv A (o + i)))] [])) := c8.trans (by
        refine iincV X7.here hexec rfl 1 (hb hbytes d32) (by decide) rfl rfl ?_
        refine iincV X7.here hexec rfl 1 (hb hbytes d35) (by decide) rfl rfl ?_
        refine iincV X7.here hexec rfl 1 (hb hbytes d38) (by decide) rfl rfl ?_
        refine XS.goto X7.here hexec rfl (pc0 := 41) rfl (hb hbytes d41) (by decide) rfl ?_
        exact Steps.refl _)
      have c10 : Steps p.tables e below (s₁.setTop (entryFrame m #[.ref b, .int (Int32.ofNat o), .ref d, .int (Int32.ofNat q), .int (Int32.ofNat len)] 7)) (T7.setTop (mkF m 3 #[.val (.ref b), .val (.int (Int32.ofNat (o + (i + 1)))), .val (.ref d), .val (.int (Int32.ofNat (q + (i + 1)))), .val (.int (Int32.ofNat len)), .val (.int (Int32.ofNat (i + 1))), .val (.int (cv A (o + i)))] [])) := by
        have := c9
        rw [succ32, succ32, succ32] at this
        exact this
      exact ih (i + 1) (by omega) _ (Or.inr ⟨_, rfl, rfl⟩) T7 _ (by rw [copyLocs_step, ← List.append_assoc]; exact X7) (pl.trans p7) (fl.step (by omega) hlt (by simp)) c10
  obtain ⟨T9, B9, z9, X9, p9, f9, g9⟩ := loop len 0 (by omega) .unset (Or.inl rfl) s₁ B (by simpa [copyLocs] using X0) ⟨hB0.1, fun _ _ => rfl, rfl⟩ (Laid.zero _ _ _) c2
  have c11 : Steps p.tables e below (s₁.setTop (entryFrame m #[.ref b, .int (Int32.ofNat o), .ref d, .int (Int32.ofNat q), .int (Int32.ofNat len)] 7)) (T9.setTop (mkF m 46 #[.val (.ref b), .val (.int (Int32.ofNat (o + len))), .val (.ref d), .val (.int (Int32.ofNat (q + len))), .val (.int (Int32.ofNat len)), .val (.int (Int32.ofNat len)), z9] [.int (Int32.ofNat len)])) := g9.trans (by
    refine XS.iload X9.here hexec rfl (hb hbytes d3) rfl ?_
    refine XS.iload X9.here hexec rfl (hb hbytes d5) rfl ?_
    refine XS.icmpYes X9.here hexec rfl (pc0 := 7) rfl (hb hbytes d7) rfl (ii_ge_t (nlt32 (by omega) (Nat.le_refl _))) (by decide) rfl ?_
    refine XS.iload X9.here hexec rfl (hb hbytes d44) rfl ?_
    exact Steps.refl _)
  exact ⟨T9, some (.int (Int32.ofNat len)), _, _, _, X9, by simp, rfl, rfl, (fun h => by cases h), ⟨rfl, B9, p9.from hh0, f9⟩, fun fs hl => c11.trans (X9.ireturnOut hexec hret rfl (Or.inl rfl) (hb hbytes d46) hl)⟩
end Cmp5
namespace Cmp3
def yN : MethodName := ⟨"java/lang/StringUTF16", "compress", "([CII)[B"⟩
abbrev yB : ByteArray := jdk_52_method_16_code
theorem d0 : decode yB 0 = .ok (.iload_n 2, 1) := by decide +kernel
theorem d1 : decode yB 1 = .ok (.newarray .byte, 2) := by decide +kernel
theorem d3 : decode yB 3 = .ok (.astore_n 3, 1) := by decide +kernel
theorem d4 : decode yB 4 = .ok (.aload_n 0, 1) := by decide +kernel
theorem d5 : decode yB 5 = .ok (.iload_n 1, 1) := by decide +kernel
theorem d6 : decode yB 6 = .ok (.aload_n 3, 1) := by decide +kernel
theorem d7 : decode yB 7 = .ok (.iconst 0, 1) := by decide +kernel
theorem d8 : decode yB 8 = .ok (.iload_n 2, 1) := by decide +kernel
theorem d9 : decode yB 9 = .ok (.invokestatic 115, 3) := by decide +kernel
theorem d12 : decode yB 12 = .ok (.istore 4, 2) := by decide +kernel
theorem d14 : decode yB 14 = .ok (.iload 4, 2) := by decide +kernel
theorem d16 : decode yB 16 = .ok (.iload_n 2, 1) := by decide +kernel
theorem d17 : decode yB 17 = .ok (.if_icmp (.eq) 40, 3) := by decide +kernel
theorem d57 : decode yB 57 = .ok (.aload_n 3, 1) := by decide +kernel
theorem d58 : decode yB 58 = .ok (.areturn, 1) := by decide +kernel
def site : List Cond := [.arrayClass .byte, Cmp5.tab] ++ staticW U16 115 Cmp5.yN
def tab : Cond := tabOf yN yB 6 (some (.array .byte)) site
def P (b : Addr) (A : Cell) (o len : Nat) (args : Array Value) (s : State) : Prop := args = #[.ref b, .int (Int32.ofNat o), .int (Int32.ofNat len)] ∧ Ch b A s ∧ o + len ≤ A.slots.size ∧ len ≤ 536870912 ∧ ∀ i, i < len → ¬ 255 < cv A (o + i)
def E (b : Addr) (A : Cell) (o len : Nat) (r : Option Value) (s u : State) : Prop := NewArr .byte "[B" len (fun j => .int (lo8 (cv A (o + j)))) r s u ∧ u.heap.size = s.heap.size + 1
/-- no char of the range above 255: a new byte[] of their low bytes -/
theorem law (l : Launch) (b : Addr) (A : Cell) (o len : Nat) : Law l yN 3 3 1 18 yB 6 (some (.array .byte)) site (P b A o len) (E b A o len) [] 1 len := by
  refine Law.of_walk (plainFor_of_name (by decide +kernel)) (by decide +kernel) (by decide +kernel) (by decide) (fun _ _ h => by rw [h.1]; rfl) (fun _ U U' hal hh h => ⟨h.1, h.2.1.mv hal hh, h.2.2⟩) (fun r U U' V V' h1 hal h2 h => ⟨NewArr.mv r U U' V V' h1 hal h2 h.1, by rw [h1, h2]; exact h.2⟩) ?_
  intro p e s m args below meth c s₁ X0 hexec hbytes hml hret hlk hnm hown hh0 W hP
  obtain ⟨rfl, hA, l1, l2, hp⟩ := hP
  have a31 := hA.1.2.2.2
  have c1 : Steps p.tables e below (s₁.setTop (entryFrame m #[.ref b, .int (Int32.ofNat o), .int (Int32.ofNat len)] 6)) (s₁.setTop (mkF m 0 #[.val (.ref b), .val (.int (Int32.ofNat o)), .val (.int (Int32.ofNat len)), .unset, .unset, .unset] [])) := entry rfl
  have c2 : Steps p.tables e below (s₁.setTop (entryFrame m #[.ref b, .int (Int32.ofNat o), .int (Int32.ofNat len)] 6)) (s₁.setTop (mkF m 1 #[.val (.ref b), .val (.int (Int32.ofNat o)), .val (.int (Int32.ofNat len)), .unset, .unset, .unset] [.int (Int32.ofNat len)])) := c1.trans (by
    refine XS.iloadN X0.here hexec rfl (hb hbytes d0) rfl ?_
    exact Steps.refl _)
  obtain ⟨T3, B3, X3, ba3, bs3, bv3, bh3, bf3, st3⟩ := X0.anew hexec (atype := .byte) (wk W (.arrayClass .byte)) rfl (by show len * 1 ≤ _; omega) (by omega) (g := (mkF m 1 #[.val (.ref b), .val (.int (Int32.ofNat o)), .val (.int (Int32.ofNat len)), .unset, .unset, .unset] [.int (Int32.ofNat len)])) rfl (hb hbytes d1) (rest := []) rfl (Nat.le_refl _) (by show 0 + len ≤ len; omega)
  rw [hh0] at ba3 st3
  have kp3 : XT.Kept s T3 := (XT.Kept.of_eq hh0).push bh3
  have hA3 := hA.keep X3.warmed.alike (kp3 _ _ hA.1.1)
  have hne : b ≠ s.heap.size := hA.1.ne
  have c4 : Steps p.tables e below (s₁.setTop (entryFrame m #[.ref b, .int (Int32.ofNat o), .int (Int32.ofNat len)] 6)) (T3.setTop (mkF m 3 #[.val (.ref b), .val (.int (Int32.ofNat o)), .val (.int (Int32.ofNat len)), .unset, .unset, .unset] [.ref s.heap.size])) := c2.trans (st3 _ (Steps.refl _))
  have c5 : Steps p.tables e below (s₁.setTop (entryFrame m #[.ref b, .int (Int32.ofNat o), .int (Int32.ofNat len)] 6)) (T3.setTop (mkF m 9 #[.val (.ref b), .val (.int (Int32.ofNat o)), .val (.int (Int32.ofNat len)), .val (.ref s.heap.size), .unset, .unset] [.int (Int32.ofNat len), .int 0, .ref s.heap.size, .int (Int32.ofNat o), .ref b])) := c4.trans (by
    refine XS.astoreN X3.here hexec rfl (hb hbytes d3) rfl rfl rfl ?_
    refine XS.aloadN X3.here hexec rfl (hb hbytes d4) rfl rfl ?_
    refine XS.iloadN X3.here hexec rfl (hb hbytes d5) rfl ?_
    refine XS.aloadN X3.here hexec rfl (hb hbytes d6) rfl rfl ?_
    refine iconstV X3.here hexec rfl 0 (hb hbytes d7) (by decide) ?_
    refine XS.iloadN X3.here hexec rfl (hb hbytes d8) rfl ?_
    exact Steps.refl _)
  obtain ⟨v6, T6, X6, E6, g6⟩ := X3.callS hexec (Cmp5.law l b A s.heap.size B3 o 0 len) hown (wks W (staticW U16 115 Cmp5.yN)) (wk W Cmp5.tab) (W := 0) (Nat.le_of_ble_eq_true rfl) (Nat.le_of_ble_eq_true rfl) (Nat.le_refl _) (by show 0 + len + 0 ≤ len; omega) (g := (mkF m 9 #[.val (.ref b), .val (.int (Int32.ofNat o)), .val (.int (Int32.ofNat len)), .val (.ref s.heap.size), .unset, .unset] [.int (Int32.ofNat len), .int (Int32.ofNat 0), .ref s.heap.size, .int (Int32.ofNat o), .ref b])) rfl (by rw [hml]; rfl) c5 (argsL := [.ref b, .int (Int32.ofNat o), .ref s.heap.size, .int (Int32.ofNat 0), .int (Int32.ofNat len)]) (rest := []) rfl rfl (by show 2 * 0 + 0 ≤ _; decide) (hb hbytes d9) (⟨rfl, hA3, ba3, hne, l1, by rw [bs3]; simp, hp⟩)
  obtain ⟨rfl, B6, p6, f6⟩ := E6
  have c7 : Steps p.tables e below (s₁.setTop (entryFrame m #[.ref b, .int (Int32.ofNat o), .int (Int32.ofNat len)] 6)) (T6.setTop (mkF m 12 #[.val (.ref b), .val (.int (Int32.ofNat o)), .val (.int (Int32.ofNat len)), .val (.ref s.heap.size), .unset, .unset] [.int (Int32.ofNat len)])) := g6
  have c8 : Steps p.tables e below (s₁.setTop (entryFrame m #[.ref b, .int (Int32.ofNat o), .int (Int32.ofNat len)] 6)) (T6.setTop (mkF m 58 #[.val (.ref b), .val (.int (Int32.ofNat o)), .val (.int (Int32.ofNat len)), .val (.ref s.heap.size), .val (.int (Int32.ofNat len)), .unset] [.ref s.heap.size])) := c7.trans (by
    refine XS.istore X6.here hexec rfl (hb hbytes d12) rfl rfl ?_
    refine XS.iload X6.here hexec rfl (hb hbytes d14) rfl ?_
    refine XS.iloadN X6.here hexec rfl (hb hbytes d16) rfl ?_
    refine XS.icmpYes X6.here hexec rfl (pc0 := 17) rfl (hb hbytes d17) rfl (ii_eq_t rfl) (by decide) rfl ?_
    refine XS.aloadN X6.here hexec rfl (hb hbytes d57) rfl rfl ?_
    exact Steps.refl _)
  have X8 := X6.wide (L' := []) (cells' := 1) (slots' := len) (fun x hx hlt => by
    simp only [List.nil_append, copyLocs, List.mem_map, List.mem_range] at hx
    obtain ⟨i, -, rfl⟩ := hx
    exact absurd hlt (Nat.lt_irrefl _)) (Nat.le_refl _) (by omega)
  exact ⟨T6, some (.ref s.heap.size), _, _, _, X8, rfl, rfl, rfl, (fun h => by cases h), ⟨⟨rfl, B6, ba3.like (X3.warmed.alike.symm.trans X6.warmed.alike) p6.1 f6.1 f6.2.1 f6.2.2.1, f6.2.1.trans bv3, by rw [X6.warmed.alike.findClass, f6.1]; exact bf3, by rw [f6.2.2.1, bs3]; simp, fun j hj => by rw [f6.2.2.2 j, if_pos (by omega)]; rfl, kp3.put p6 (Nat.le_refl _)⟩, by rw [p6.2.2, bh3, hh0]; simp⟩, fun fs hl => c8.trans (X8.areturnOut hexec rfl hret rfl (hb hbytes d58) hl)⟩
end Cmp3
namespace CodL
def yN : MethodName := ⟨"java/lang/StringUTF16", "coderFromArrayLen", "([BI)B"⟩
abbrev yB : ByteArray := jdk_52_method_15_code
theorem d0 : decode yB 0 = .ok (.iload_n 1, 1) := by decide +kernel
theorem d1 : decode yB 1 = .ok (.aload_n 0, 1) := by decide +kernel
theorem d2 : decode yB 2 = .ok (.arraylength, 1) := by decide +kernel
theorem d3 : decode yB 3 = .ok (.isub, 1) := by decide +kernel
theorem d4 : decode yB 4 = .ok (.bipush 31, 2) := by decide +kernel
theorem d6 : decode yB 6 = .ok (.iushr, 1) := by decide +kernel
theorem d7 : decode yB 7 = .ok (.i2b, 1) := by decide +kernel
theorem d8 : decode yB 8 = .ok (.ireturn, 1) := by decide +kernel
def site : List Cond := []
def tab : Cond := tabOf yN yB 2 (some .byte) site
def P (d : Addr) (B : Cell) (args : Array Value) (s : State) : Prop := args = #[.ref d, .int (Int32.ofNat B.slots.size)] ∧ Arr .byte d B s
def E (r : Option Value) (s u : State) : Prop := XT.PureE (some (.int 0)) r s u
/-- an array as long as the number of chars: LATIN1 -/
theorem law (l : Launch) (d : Addr) (B : Cell) : Law l yN 2 2 0 0 yB 2 (some .byte) site (P d B) E [] 0 0 := by
  refine Law.of_walk (plainFor_of_name (by decide +kernel)) (by decide +kernel) (by decide +kernel) (by decide) (fun _ _ h => by rw [h.1]; rfl) (fun _ U U' hal hh h => ⟨h.1, h.2.mv hal hh⟩) (fun r U U' V V' h1 hal h2 h => XT.PureE.mv r U U' V V' h1 hal h2 h) ?_
  intro p e s m args below meth c s₁ X0 hexec hbytes hml hret hlk hnm hown hh0 W hP
  obtain ⟨rfl, hB⟩ := hP
  have hB0 := hB.mv X0.warmed.alike hh0
  have c1 : Steps p.tables e below (s₁.setTop (entryFrame m #[.ref d, .int (Int32.ofNat B.slots.size)] 2)) (s₁.setTop (mkF m 0 #[.val (.ref d), .val (.int (Int32.ofNat B.slots.size))] [])) := entry rfl
  have c2 : Steps p.tables e below (s₁.setTop (entryFrame m #[.ref d, .int (Int32.ofNat B.slots.size)] 2)) (s₁.setTop (mkF m 2 #[.val (.ref d), .val (.int (Int32.ofNat B.slots.size))] [.ref d, .int (Int32.ofNat B.slots.size)])) := c1.trans (by
    refine XS.iloadN X0.here hexec rfl (hb hbytes d0) rfl ?_
    refine XS.aloadN X0.here hexec rfl (hb hbytes d1) rfl rfl ?_
    exact Steps.refl _)
  have c3 : Steps p.tables e below (s₁.setTop (entryFrame m #[.ref d, .int (Int32.ofNat B.slots.size)] 2)) (s₁.setTop (mkF m 8 #[.val (.ref d), .val (.int (Int32.ofNat B.slots.size))] [.int (lo8 (ushr (Int32.ofNat B.slots.size - Int32.ofNat B.slots.size) 31))])) := c2.trans (by
    refine X0.alen hexec hB0 rfl rfl (hb hbytes d2) ?_
    refine XS.isub X0.here hexec rfl (hb hbytes d3) rfl ?_
    refine bipushV X0.here hexec rfl 31 (hb hbytes d4) (by decide) ?_
    refine iushr X0.here hexec rfl (hb hbytes d6) rfl ?_
    refine i2b X0.here hexec rfl (hb hbytes d7) rfl ?_
    exact Steps.refl _)
  have e0 : lo8 (ushr (Int32.ofNat B.slots.size - Int32.ofNat B.slots.size) 31) = 0 := by rw [Int32.sub_self]; decide
  rw [e0] at c3
  exact ⟨s₁, some (.int 0), _, _, _, X0, rfl, rfl, rfl, (fun h => by cases h), ⟨rfl, hh0⟩, fun fs hl => c3.trans (X0.ireturnOut hexec hret rfl (Or.inr (Or.inr (Or.inl rfl))) (hb hbytes d8) hl)⟩
end CodL
/-- the String at a is Latin-1 over a new byte[] (the heap's one new cell): the low bytes of the len chars of A from o on; every cell but a is kept -/
def Got (a : Addr) (D : Cell) (fV fC : Field) (A : Cell) (o len : Nat) (r : Option Value) (s u : State) : Prop := r = none ∧ ∃ D' V : Cell, Blank "java/lang/String" a D' u ∧ Same D D' [fV.slot, fC.slot] ∧ D'.slots[fV.slot]? = some (.ref s.heap.size) ∧ D'.slots[fC.slot]? = some (.int 0) ∧ Arr .byte s.heap.size V u ∧ V.vm = .none ∧ u.vm.findClass "[B" = some V.cls ∧ V.slots.size = len ∧ (∀ j, j < len → V.slots[j]? = some (.int (lo8 (cv A (o + j))))) ∧ (∀ (y : Addr) (c : Cell), y ≠ a → s.heap[y]? = some c → u.heap[y]? = some c) ∧ u.heap.size = s.heap.size + 1
theorem Got.mv {a : Addr} {D A : Cell} {fV fC : Field} {o len : Nat} : ∀ r (U U' V V' : State), U'.heap = U.heap → V.vm.Alike V'.vm → V'.heap = V.heap → Got a D fV fC A o len r U V → Got a D fV fC A o len r U' V' :=
  fun r U U' V V' h1 hal h2 ⟨e0, D', X, a1, a2, a3, a4, a5, a6, a7, a8, a9, a10, a11⟩ => ⟨e0, D', X, a1.mv hal h2, a2, by rw [h1]; exact a3, a4, by rw [h1]; exact a5.mv hal h2, a6, by rw [hal.findClass]; exact a7, a8, a9, by rw [h1, h2]; exact a10, by rw [h1, h2]; exact a11⟩
namespace New4
def yN : MethodName := ⟨"java/lang/String", "<init>", "([CIILjava/lang/Void;)V"⟩
abbrev yB : ByteArray := jdk_42_method_149_code
theorem d0 : decode yB 0 = .ok (.aload_n 0, 1) := by decide +kernel
theorem d1 : decode yB 1 = .ok (.invokespecial 1, 3) := by decide +kernel
theorem d4 : decode yB 4 = .ok (.iload_n 3, 1) := by decide +kernel
theorem d5 : decode yB 5 = .ok (.ifCond (.ne) 22, 3) := by decide +kernel
theorem d27 : decode yB 27 = .ok (.getstatic 38, 3) := by decide +kernel
theorem d30 : decode yB 30 = .ok (.ifCond (.eq) 28, 3) := by decide +kernel
theorem d33 : decode yB 33 = .ok (.aload_n 1, 1) := by decide +kernel
theorem d34 : decode yB 34 = .ok (.iload_n 2, 1) := by decide +kernel
theorem d35 : decode yB 35 = .ok (.iload_n 3, 1) := by decide +kernel
theorem d36 : decode yB 36 = .ok (.invokestatic 177, 3) := by decide +kernel
theorem d39 : decode yB 39 = .ok (.astore 5, 2) := by decide +kernel
theorem d41 : decode yB 41 = .ok (.aload_n 0, 1) := by decide +kernel
theorem d42 : decode yB 42 = .ok (.aload 5, 2) := by decide +kernel
theorem d44 : decode yB 44 = .ok (.iload_n 3, 1) := by decide +kernel
theorem d45 : decode yB 45 = .ok (.invokestatic 47, 3) := by decide +kernel
theorem d48 : decode yB 48 = .ok (.putfield 15, 3) := by decide +kernel
theorem d51 : decode yB 51 = .ok (.aload_n 0, 1) := by decide +kernel
theorem d52 : decode yB 52 = .ok (.aload 5, 2) := by decide +kernel
theorem d54 : decode yB 54 = .ok (.putfield 9, 3) := by decide +kernel
theorem d57 : decode yB 57 = .ok (.return_, 1) := by decide +kernel
def site : List Cond := [.fieldLink "java/lang/String" 38 "java/lang/String" "COMPACT_STRINGS" "Z", Cmp3.tab, CodL.tab, .laysFinal "java/lang/String" "java/lang/String" "value" "[B", .fieldLink "java/lang/String" 9 "java/lang/String" "value" "[B", .laysFinal "java/lang/String" "java/lang/String" "coder" "B", .fieldLink "java/lang/String" 15 "java/lang/String" "coder" "B"] ++ objW "java/lang/String" 1 ++ staticW "java/lang/String" 177 Cmp3.yN ++ staticW "java/lang/String" 47 CodL.yN
def tab : Cond := tabOf yN yB 6 none site
def P (a : Addr) (D : Cell) (fV fC : Field) (b : Addr) (A : Cell) (z : Int32) (o len : Nat) (args : Array Value) (s : State) : Prop := args = #[.ref a, .ref b, .int (Int32.ofNat o), .int (Int32.ofNat len), .null] ∧ Blank "java/lang/String" a D s ∧ Found "java/lang/String" "value" "[B" fV s ∧ Found "java/lang/String" "coder" "B" fC s ∧ Ch b A s ∧ StaticIs s "java/lang/String" "COMPACT_STRINGS" "Z" (.int z) ∧ ¬ z = 0 ∧ 0 < len ∧ o + len ≤ A.slots.size ∧ len ≤ 536870912 ∧ ∀ i, i < len → ¬ 255 < cv A (o + i)
def E (a : Addr) (D : Cell) (fV fC : Field) (A : Cell) (o len : Nat) (r : Option Value) (s u : State) : Prop := Got a D fV fC A o len r s u
/-- len > 0, no char of the range above 255: a Latin-1 String of their low bytes -/
theorem law (l : Launch) (a : Addr) (D : Cell) (fV fC : Field) (b : Addr) (A : Cell) (z : Int32) (o len : Nat) : Law l yN 5 4 2 35 yB 6 none site (P a D fV fC b A z o len) (E a D fV fC A o len) [⟨a, fC.slot⟩, ⟨a, fV.slot⟩] 1 len := by
  refine Law.of_walk (plainFor_of_name (by decide +kernel)) (by decide +kernel) (by decide +kernel) (by decide) (fun _ _ h => by rw [h.1]; rfl) (fun _ U U' hal hh h => ⟨h.1, h.2.1.mv hal hh, h.2.2.1.al hal, h.2.2.2.1.al hal, h.2.2.2.2.1.mv hal hh, h.2.2.2.2.2.1.there hal hh, h.2.2.2.2.2.2⟩) (fun r U U' V V' h1 hal h2 h => Got.mv r U U' V V' h1 hal h2 h) ?_
  intro p e s m args below meth c s₁ X0 hexec hbytes hml hret hlk hnm hown hh0 W hP
  obtain ⟨rfl, hB, f1, f2, hA, s1, hz, l0, l1, l2, hp⟩ := hP
  have a31 := hA.1.2.2.2
  have c1 : Steps p.tables e below (s₁.setTop (entryFrame m #[.ref a, .ref b, .int (Int32.ofNat o), .int (Int32.ofNat len), .null] 6)) (s₁.setTop (mkF m 0 #[.val (.ref a), .val (.ref b), .val (.int (Int32.ofNat o)), .val (.int (Int32.ofNat len)), .val .null, .unset] [])) := entry rfl
  have c2 : Steps p.tables e below (s₁.setTop (entryFrame m #[.ref a, .ref b, .int (Int32.ofNat o), .int (Int32.ofNat len), .null] 6)) (s₁.setTop (mkF m 1 #[.val (.ref a), .val (.ref b), .val (.int (Int32.ofNat o)), .val (.int (Int32.ofNat len)), .val .null, .unset] [.ref a])) := c1.trans (by
    refine XS.aloadN X0.here hexec rfl (hb hbytes d0) rfl rfl ?_
    exact Steps.refl _)
  obtain ⟨T3, X3, q3, st3⟩ := X0.oinit hexec hown (wks W (objW "java/lang/String" 1)) (g := (mkF m 1 #[.val (.ref a), .val (.ref b), .val (.int (Int32.ofNat o)), .val (.int (Int32.ofNat len)), .val .null, .unset] [.ref a])) rfl (by rw [hml]; rfl) (rest := []) rfl (hb hbytes d1) (W := 0) (by show 2 * 0 + 0 ≤ _; decide) (Nat.le_of_ble_eq_true rfl) (Nat.le_of_ble_eq_true rfl)
  have hh3 := q3.trans hh0
  have c4 : Steps p.tables e below (s₁.setTop (entryFrame m #[.ref a, .ref b, .int (Int32.ofNat o), .int (Int32.ofNat len), .null] 6)) (T3.setTop (mkF m 27 #[.val (.ref a), .val (.ref b), .val (.int (Int32.ofNat o)), .val (.int (Int32.ofNat len)), .val .null, .unset] [])) := (c2.trans (st3 _ (Steps.refl _))).trans (by
    refine XS.iloadN X3.here hexec rfl (hb hbytes d4) rfl ?_
    refine XS.ifYes X3.here hexec rfl (pc0 := 5) rfl (hb hbytes d5) rfl (i0_ne_t (nz32 (by omega) l0)) (by decide) rfl ?_
    exact Steps.refl _)
  obtain ⟨T5, X5, q5, st5⟩ := X3.sget hexec hown (wk W (.fieldLink "java/lang/String" 38 "java/lang/String" "COMPACT_STRINGS" "Z")) s1 (fun _ _ h => by rw [hh3]; exact h) (g := (mkF m 27 #[.val (.ref a), .val (.ref b), .val (.int (Int32.ofNat o)), .val (.int (Int32.ofNat len)), .val .null, .unset] [])) rfl (hb hbytes d27)
  have hh5 := q5.trans hh3
  have c6 : Steps p.tables e below (s₁.setTop (entryFrame m #[.ref a, .ref b, .int (Int32.ofNat o), .int (Int32.ofNat len), .null] 6)) (T5.setTop (mkF m 30 #[.val (.ref a), .val (.ref b), .val (.int (Int32.ofNat o)), .val (.int (Int32.ofNat len)), .val .null, .unset] [.int z])) := c4.trans (st5 _ (Steps.refl _))
  have c7 : Steps p.tables e below (s₁.setTop (entryFrame m #[.ref a, .ref b, .int (Int32.ofNat o), .int (Int32.ofNat len), .null] 6)) (T5.setTop (mkF m 36 #[.val (.ref a), .val (.ref b), .val (.int (Int32.ofNat o)), .val (.int (Int32.ofNat len)), .val .null, .unset] [.int (Int32.ofNat len), .int (Int32.ofNat o), .ref b])) := c6.trans (by
    refine XS.ifNo X5.here hexec rfl (hb hbytes d30) rfl (i0_eq_f hz) ?_
    refine XS.aloadN X5.here hexec rfl (hb hbytes d33) rfl rfl ?_
    refine XS.iloadN X5.here hexec rfl (hb hbytes d34) rfl ?_
    refine XS.iloadN X5.here hexec rfl (hb hbytes d35) rfl ?_
    exact Steps.refl _)
  obtain ⟨v8, T8, X8, E8, g8⟩ := X5.callS hexec (Cmp3.law l b A o len) hown (wks W (staticW "java/lang/String" 177 Cmp3.yN)) (wk W Cmp3.tab) (W := 0) (Nat.le_of_ble_eq_true rfl) (Nat.le_of_ble_eq_true rfl) (Nat.le_refl _) (by show 0 + len ≤ len; omega) (g := (mkF m 36 #[.val (.ref a), .val (.ref b), .val (.int (Int32.ofNat o)), .val (.int (Int32.ofNat len)), .val .null, .unset] [.int (Int32.ofNat len), .int (Int32.ofNat o), .ref b])) rfl (by rw [hml]; rfl) c7 (argsL := [.ref b, .int (Int32.ofNat o), .int (Int32.ofNat len)]) (rest := []) rfl rfl (by show 2 * 0 + 0 ≤ _; decide) (hb hbytes d36) (⟨rfl, hA.mv X5.warmed.alike hh5, l1, l2, hp⟩)
  obtain ⟨e8, z8⟩ := E8
  obtain ⟨rfl, N, n1, n2, n3, n4, n5, n6⟩ := NewArr.mv _ T5 s _ _ hh5.symm (Vm.Alike.refl _) rfl e8
  rw [hh5] at z8
  have hB1 := hB.keep X8.warmed.alike (n6 _ _ hB.1)
  have hne : s.heap.size ≠ a := (Nat.ne_of_lt (Array.getElem?_eq_some_iff.mp hB.1).1).symm
  have c9 : Steps p.tables e below (s₁.setTop (entryFrame m #[.ref a, .ref b, .int (Int32.ofNat o), .int (Int32.ofNat len), .null] 6)) (T8.setTop (mkF m 39 #[.val (.ref a), .val (.ref b), .val (.int (Int32.ofNat o)), .val (.int (Int32.ofNat len)), .val .null, .unset] [.ref s.heap.size])) := g8
  have c10 : Steps p.tables e below (s₁.setTop (entryFrame m #[.ref a, .ref b, .int (Int32.ofNat o), .int (Int32.ofNat len), .null] 6)) (T8.setTop (mkF m 45 #[.val (.ref a), .val (.ref b), .val (.int (Int32.ofNat o)), .val (.int (Int32.ofNat len)), .val .null, .val (.ref s.heap.size)] [.int (Int32.ofNat N.slots.size), .ref s.heap.size, .ref a])) := by
    have hc : Steps p.tables e below (s₁.setTop (entryFrame m #[.ref a, .ref b, .int (Int32.ofNat o), .int (Int32.ofNat len), .null] 6)) (T8.setTop (mkF m 45 #[.val (.ref a), .val (.ref b), .val (.int (Int32.ofNat o)), .val (.int (Int32.ofNat len)), .val .null, .val (.ref s.heap.size)] [.int (Int32.ofNat len), .ref s.heap.size, .ref a])) := c9.trans (by
      refine XS.astore X8.here hexec rfl (hb hbytes d39) rfl rfl rfl ?_
      refine XS.aloadN X8.here hexec rfl (hb hbytes d41) rfl rfl ?_
      refine XS.aload X8.here hexec rfl (hb hbytes d42) rfl rfl ?_
      refine XS.iloadN X8.here hexec rfl (hb hbytes d44) rfl ?_
      exact Steps.refl _)
    rw [n4]; exact hc
  obtain ⟨v11, T11, X11, E11, g11⟩ := X8.callS hexec (CodL.law l s.heap.size N) hown (wks W (staticW "java/lang/String" 47 CodL.yN)) (wk W CodL.tab) (W := 1) (Nat.le_of_ble_eq_true rfl) (Nat.le_of_ble_eq_true rfl) (Nat.le_refl _) (by show 0 + len + 0 ≤ len; omega) (g := (mkF m 45 #[.val (.ref a), .val (.ref b), .val (.int (Int32.ofNat o)), .val (.int (Int32.ofNat len)), .val .null, .val (.ref s.heap.size)] [.int (Int32.ofNat N.slots.size), .ref s.heap.size, .ref a])) rfl (by rw [hml]; rfl) c10 (argsL := [.ref s.heap.size, .int (Int32.ofNat N.slots.size)]) (rest := [.ref a]) rfl rfl (by show 2 * 0 + (1 + 0) ≤ _; decide) (hb hbytes d45) (⟨rfl, n1⟩)
  obtain ⟨rfl, q11⟩ := E11
  have hB11 := hB1.mv (X8.warmed.alike.symm.trans X11.warmed.alike) q11
  have c12 : Steps p.tables e below (s₁.setTop (entryFrame m #[.ref a, .ref b, .int (Int32.ofNat o), .int (Int32.ofNat len), .null] 6)) (T11.setTop (mkF m 48 #[.val (.ref a), .val (.ref b), .val (.int (Int32.ofNat o)), .val (.int (Int32.ofNat len)), .val .null, .val (.ref s.heap.size)] [.int 0, .ref a])) := g11
  obtain ⟨T13, X13, p13, bl13, sl13, st13⟩ := X11.finit hexec hown (wk W (.fieldLink "java/lang/String" 15 "java/lang/String" "coder" "B")) (Or.inr ⟨_, (wk W (.laysFinal "java/lang/String" "java/lang/String" "coder" "B"))⟩) (Or.inl ⟨rfl, hnm⟩) f2 (Or.inl rfl) hB11 (t := .byte) (by decide +kernel) rfl (g := (mkF m 48 #[.val (.ref a), .val (.ref b), .val (.int (Int32.ofNat o)), .val (.int (Int32.ofNat len)), .val .null, .val (.ref s.heap.size)] [.int 0, .ref a])) rfl (rest := []) rfl (hb hbytes d48)
  have c14 : Steps p.tables e below (s₁.setTop (entryFrame m #[.ref a, .ref b, .int (Int32.ofNat o), .int (Int32.ofNat len), .null] 6)) (T13.setTop (mkF m 54 #[.val (.ref a), .val (.ref b), .val (.int (Int32.ofNat o)), .val (.int (Int32.ofNat len)), .val .null, .val (.ref s.heap.size)] [.ref s.heap.size, .ref a])) := (c12.trans (st13 _ (Steps.refl _))).trans (by
    refine XS.aloadN X13.here hexec rfl (hb hbytes d51) rfl rfl ?_
    refine XS.aload X13.here hexec rfl (hb hbytes d52) rfl rfl ?_
    exact Steps.refl _)
  obtain ⟨T15, X15, p15, bl15, sl15, st15⟩ := X13.finit hexec hown (wk W (.fieldLink "java/lang/String" 9 "java/lang/String" "value" "[B")) (Or.inr ⟨_, (wk W (.laysFinal "java/lang/String" "java/lang/String" "value" "[B"))⟩) (Or.inl ⟨rfl, hnm⟩) f1 (Or.inl rfl) bl13 (t := (.array .byte)) (by decide +kernel) rfl (g := (mkF m 54 #[.val (.ref a), .val (.ref b), .val (.int (Int32.ofNat o)), .val (.int (Int32.ofNat len)), .val .null, .val (.ref s.heap.size)] [.ref s.heap.size, .ref a])) rfl (rest := []) rfl (hb hbytes d54)
  have c16 : Steps p.tables e below (s₁.setTop (entryFrame m #[.ref a, .ref b, .int (Int32.ofNat o), .int (Int32.ofNat len), .null] 6)) (T15.setTop (mkF m 57 #[.val (.ref a), .val (.ref b), .val (.int (Int32.ofNat o)), .val (.int (Int32.ofNat len)), .val .null, .val (.ref s.heap.size)] [])) := c14.trans (st15 _ (Steps.refl _))
  have ap := apart (Or.inr ⟨_, (wk W (.laysFinal "java/lang/String" "java/lang/String" "value" "[B"))⟩) (Or.inr ⟨_, (wk W (.laysFinal "java/lang/String" "java/lang/String" "coder" "B"))⟩) f1 f2 (t₁ := .array .byte) (t₂ := .byte) (by decide +kernel) (by decide +kernel) (by decide)
  have al := X8.warmed.alike.symm.trans X15.warmed.alike
  have n7 : T11.heap[s.heap.size]? = some N := by rw [q11]; exact n1.1
  exact ⟨T15, none, _, _, _, X15, by simp, rfl, by omega, (fun _ => rfl), ⟨rfl, _, N, bl15, ((Same.refl D _).set _ (by simp)).set _ (by simp), sl15, (Cell.slots_setSlot_ne _ ap).trans sl13, n1.keep al (p15.other hne (p13.other hne n7)), n2, by rw [al.findClass]; exact n3, n4, n5, fun y c h1 h2 => p15.other h1 (p13.other h1 (by rw [q11]; exact n6 y c h2)), by rw [p15.2.2, p13.2.2, q11]; exact z8⟩, fun fs hl => c16.trans (X15.returnOut hexec hret (hb hbytes d57) hl)⟩
end New4
namespace New1
def yN : MethodName := ⟨"java/lang/String", "<init>", "([C)V"⟩
abbrev yB : ByteArray := jdk_42_method_3_code
theorem d0 : decode yB 0 = .ok (.aload_n 0, 1) := by decide +kernel
theorem d1 : decode yB 1 = .ok (.aload_n 1, 1) := by decide +kernel
theorem d2 : decode yB 2 = .ok (.iconst 0, 1) := by decide +kernel
theorem d3 : decode yB 3 = .ok (.aload_n 1, 1) := by decide +kernel
theorem d4 : decode yB 4 = .ok (.arraylength, 1) := by decide +kernel
theorem d5 : decode yB 5 = .ok (.aconst_null, 1) := by decide +kernel
theorem d6 : decode yB 6 = .ok (.invokespecial 27, 3) := by decide +kernel
theorem d9 : decode yB 9 = .ok (.return_, 1) := by decide +kernel
def site : List Cond := [New4.tab] ++ initW "java/lang/String" 27 New4.yN
def tab : Cond := tabOf yN yB 2 none site
def P (a : Addr) (D : Cell) (fV fC : Field) (b : Addr) (A : Cell) (z : Int32) (args : Array Value) (s : State) : Prop := args = #[.ref a, .ref b] ∧ Blank "java/lang/String" a D s ∧ Found "java/lang/String" "value" "[B" fV s ∧ Found "java/lang/String" "coder" "B" fC s ∧ Ch b A s ∧ StaticIs s "java/lang/String" "COMPACT_STRINGS" "Z" (.int z) ∧ ¬ z = 0 ∧ 0 < A.slots.size ∧ A.slots.size ≤ 536870912 ∧ ∀ i, i < A.slots.size → ¬ 255 < cv A i
def E (a : Addr) (D : Cell) (fV fC : Field) (A : Cell) (r : Option Value) (s u : State) : Prop := Got a D fV fC A 0 A.slots.size r s u
/-- new String(chars), not empty, no char above 255: a Latin-1 String of their low bytes -/
theorem law (l : Launch) (a : Addr) (D : Cell) (fV fC : Field) (b : Addr) (A : Cell) (z : Int32) : Law l yN 2 1 3 52 yB 2 none site (P a D fV fC b A z) (E a D fV fC A) [⟨a, fC.slot⟩, ⟨a, fV.slot⟩] 1 A.slots.size := by
  refine Law.of_walk (plainFor_of_name (by decide +kernel)) (by decide +kernel) (by decide +kernel) (by decide) (fun _ _ h => by rw [h.1]; rfl) (fun _ U U' hal hh h => ⟨h.1, h.2.1.mv hal hh, h.2.2.1.al hal, h.2.2.2.1.al hal, h.2.2.2.2.1.mv hal hh, h.2.2.2.2.2.1.there hal hh, h.2.2.2.2.2.2⟩) (fun r U U' V V' h1 hal h2 h => Got.mv r U U' V V' h1 hal h2 h) ?_
  intro p e s m args below meth c s₁ X0 hexec hbytes hml hret hlk hnm hown hh0 W hP
  obtain ⟨rfl, hB, f1, f2, hA, s1, hz, l0, l2, hp⟩ := hP
  have c1 : Steps p.tables e below (s₁.setTop (entryFrame m #[.ref a, .ref b] 2)) (s₁.setTop (mkF m 0 #[.val (.ref a), .val (.ref b)] [])) := entry rfl
  have c2 : Steps p.tables e below (s₁.setTop (entryFrame m #[.ref a, .ref b] 2)) (s₁.setTop (mkF m 6 #[.val (.ref a), .val (.ref b)] [.null, .int (Int32.ofNat A.slots.size), .int 0, .ref b, .ref a])) := c1.trans (by
    refine XS.aloadN X0.here hexec rfl (hb hbytes d0) rfl rfl ?_
    refine XS.aloadN X0.here hexec rfl (hb hbytes d1) rfl rfl ?_
    refine iconstV X0.here hexec rfl 0 (hb hbytes d2) (by decide) ?_
    refine XS.aloadN X0.here hexec rfl (hb hbytes d3) rfl rfl ?_
    refine X0.alen hexec (hA.1.mv X0.warmed.alike hh0) rfl rfl (hb hbytes d4) ?_
    refine XS.aconstNull X0.here hexec rfl (hb hbytes d5) ?_
    exact Steps.refl _)
  obtain ⟨v3, T3, X3, E3, g3⟩ := X0.callN hexec (New4.law l a D fV fC b A z 0 A.slots.size) rfl hown (wks W (initW "java/lang/String" 27 New4.yN)) (W New4.tab (by simp only [site, List.mem_cons, List.mem_append, true_or, or_true])) (W := 0) (Nat.le_of_ble_eq_true rfl) (Nat.le_of_ble_eq_true rfl) (Nat.le_refl _) (by show 0 + A.slots.size ≤ A.slots.size; omega) (g := (mkF m 6 #[.val (.ref a), .val (.ref b)] [.null, .int (Int32.ofNat A.slots.size), .int (Int32.ofNat 0), .ref b, .ref a])) rfl (by rw [hml]; rfl) c2 (argsL := [.ref b, .int (Int32.ofNat 0), .int (Int32.ofNat A.slots.size), .null]) (rest := []) rfl rfl (by show 2 * 0 + 0 ≤ _; decide) (hb hbytes d6) (⟨rfl, hB.mv X0.warmed.alike hh0, f1.al X0.warmed.alike, f2.al X0.warmed.alike, hA.mv X0.warmed.alike hh0, s1.there X0.warmed.alike hh0, hz, l0, by omega, l2, fun i hi => by rw [Nat.zero_add]; exact hp i hi⟩)
  have e0 := Got.mv _ s₁ s _ _ hh0.symm (Vm.Alike.refl _) rfl E3
  obtain rfl := e0.1
  have c4 : Steps p.tables e below (s₁.setTop (entryFrame m #[.ref a, .ref b] 2)) (T3.setTop (mkF m 9 #[.val (.ref a), .val (.ref b)] [])) := g3
  exact ⟨T3, none, _, _, _, X3, by simp, rfl, by omega, (fun _ => rfl), e0, fun fs hl => c4.trans (X3.returnOut hexec hret (hb hbytes d9) hl)⟩
theorem pays {l : Launch} {R : Room} {p : Program} {e : Env} {below : List Frame} {s : State} {sargs : Array Value} {len W : Nat} (a : Addr) (D : Cell) (fV fC : Field) (b : Addr) (A : Cell) (z : Int32) (htab : tab.before sargs s = true) (hfr : 4 ≤ R.frames) (hlo : W + 65 ≤ R.locals) :
    Back l R p e below s sargs yN len W (fun A₁ a₁ => A₁.cells + 1 ≤ R.cells ∧ A₁.slots + A.slots.size ≤ R.slots ∧ P a D fV fC b A z a₁ A₁.U) (fun A₁ _ v₁ B₁ => E a D fV fC A v₁ A₁.U B₁.U ∧ B₁.locs = A₁.locs ++ [⟨a, fC.slot⟩, ⟨a, fV.slot⟩] ∧ B₁.cells = A₁.cells + 1 ∧ B₁.slots = A₁.slots + A.slots.size) :=
  (law l a D fV fC b A z).pays htab hfr (by omega)
end New1
end StrChars
namespace StrChars.Road
open Jvm Sem ClassFile Op Lib Jvm.Stand Jvm.Free Jvm.Free.XT
open Jvm.Lib.Cold (StaticIs)
abbrev ST : String := "java/lang/String"
/-- every table word that New1's law asks, flat -/
abbrev words : List Jvm.Cond := [.code New1.yN New1.yB 2 none, .initialized ST, .methodLink ST 27 New4.yN, .instanceMethod New4.yN,
  .code New4.yN New4.yB 6 none, .fieldLink ST 38 ST "COMPACT_STRINGS" "Z", .laysFinal ST ST "value" "[B", .fieldLink ST 9 ST "value" "[B", .laysFinal ST ST "coder" "B", .fieldLink ST 15 ST "coder" "B",
  .methodLink ST 1 Lib.objectInit, .instanceMethod Lib.objectInit, .code Lib.objectInit ⟨#[0xb1]⟩ 1 none, .methodLink ST 177 Cmp3.yN, .static Cmp3.yN, .methodLink ST 47 CodL.yN, .static CodL.yN,
  .code Cmp3.yN Cmp3.yB 6 (some (.array .byte)), .initialized U16, .arrayClass .byte, .methodLink U16 115 Cmp5.yN, .static Cmp5.yN, .code Cmp5.yN Cmp5.yB 7 (some .int), .code CodL.yN CodL.yB 2 (some .byte)]
theorem tab_of {a : Array Value} {s : State} (h : ∀ w ∈ words, w.before a s = true) : New1.tab.before a s = true := by
  have h5 : Cmp5.tab.before a s = true := unparts (wk h (.code Cmp5.yN Cmp5.yB 7 (some .int))) (wks h (.initialized Cmp5.yN.cls :: Cmp5.site))
  have hc : CodL.tab.before a s = true := unparts (wk h (.code CodL.yN CodL.yB 2 (some .byte))) (wks h (.initialized CodL.yN.cls :: CodL.site))
  have q5 : ∀ w ∈ Cmp5.tab :: words, w.before a s = true := fun w hw => (List.mem_cons.mp hw).elim (fun e => e ▸ h5) (h w)
  have h3 : Cmp3.tab.before a s = true := unparts (wk q5 (.code Cmp3.yN Cmp3.yB 6 (some (.array .byte)))) (wks q5 (.initialized Cmp3.yN.cls :: Cmp3.site))
  have q3 : ∀ w ∈ Cmp3.tab :: CodL.tab :: words, w.before a s = true := fun w hw => (List.mem_cons.mp hw).elim (fun e => e ▸ h3) fun hw => (List.mem_cons.mp hw).elim (fun e => e ▸ hc) (h w)
  have h4 : New4.tab.before a s = true := unparts (wk q3 (.code New4.yN New4.yB 6 none)) (wks q3 (.initialized New4.yN.cls :: New4.site))
  have q4 : ∀ w ∈ New4.tab :: words, w.before a s = true := fun w hw => (List.mem_cons.mp hw).elim (fun e => e ▸ h4) (h w)
  exact unparts (wk q4 (.code New1.yN New1.yB 2 none)) (wks q4 (.initialized New1.yN.cls :: New1.site))
/-- the words ride from the start Z to the walk's own state -/
theorem moved {Z s : State} {a0 args : Array Value} (hZ : Z.Warmed39 s.vm) (hw : ∀ d ∈ words, d.before a0 Z = true) : ∀ d ∈ words, d.before args s = true := fun d hd => by
  have q := hw d hd
  have t : ∀ d ∈ words, d = .arrayClass .byte ∨ (d.onTables && d.keepsFace) = true := by decide +kernel
  rcases t d hd with rfl | t
  · exact RoadKit.mvA hZ q
  · exact RoadKit.mv hZ q t
/-- WHAT COMES BACK, over the tables of the start Z: h the heap at the call, h' behind it -/
def Q (Z : State) (x : Addr) (A : Cell) (h : Heap) (v : Option Value) (h' : Heap) (L : List Loc) : Prop := v = none ∧ (∀ y ∈ L, y.base = x) ∧ RoadKit.Keep h h' [x] ∧ h'.size = h.size + 1 ∧ RoadKit.Exa Z h' x ST ∧ RoadKit.Fld Z h' x ST "value" "[B" (.ref h.size) ∧ RoadKit.Fld Z h' x ST "coder" "B" (.int 0) ∧
  (∃ V : Cell, RoadKit.Arr Z h' h.size V .byte ∧ V.vm = .none ∧ Z.vm.findClass "[B" = some V.cls ∧ V.slots.size = A.slots.size ∧ ∀ j, j < A.slots.size → V.slots[j]? = some (.int (lo8 (cv A j)))) ∧
  ∀ (O n d : String) (w : Value), RoadKit.Fld Z h x O n d w → RoadKit.slotOf Z O n d ≠ RoadKit.slotOf Z ST "value" "[B" → RoadKit.slotOf Z O n d ≠ RoadKit.slotOf Z ST "coder" "B" → RoadKit.Fld Z h' x O n d w
/-- **new String(chars) AT A CALL, IN THE ROAD'S FORM**: for specialBack behind newO: x the fresh String, b the char[] with the cell A -/
theorem back {p : Program} {l : Launch} {e : Env} {R : Room} {s : State} {args : Array Value} {below : List Frame} {len W : Nat} {Z : State} {a0 : Array Value} {h : Heap} (hZ : Z.Warmed39 s.vm) (hw : ∀ d ∈ words, d.before a0 Z = true) {kI : Nat} (wi : (Jvm.Cond.instantiable ST kI).before a0 Z = true)
    {x b : Addr} {A : Cell} {z : Int32} {v0 c0 : Value} (E : RoadKit.Exa Z h x ST) (V : RoadKit.Fld Z h x ST "value" "[B" v0) (C : RoadKit.Fld Z h x ST "coder" "B" c0) (K : RoadKit.Arr Z h b A .char) (hty : Typed .char A) (S : RoadKit.Sta Z h ST "COMPACT_STRINGS" "Z" (.int z)) (hz : ¬ z = 0)
    (l0 : 0 < A.slots.size) (l2 : A.slots.size ≤ 536870912) (hp : ∀ i, i < A.slots.size → ¬ 255 < cv A i) (hfr : 4 ≤ R.frames) (hlo : W + 65 ≤ R.locals) :
    Back l R p e below s args New1.yN len W (fun P a => a = #[.ref x, .ref b] ∧ P.U.heap = h ∧ P.cells + 1 ≤ R.cells ∧ P.slots + A.slots.size ≤ R.slots)
      (fun P _ v B => ∃ L, Q Z x A h v B.U.heap L ∧ B.locs = P.locs ++ L ∧ B.cells = P.cells + 1 ∧ B.slots = P.slots + A.slots.size) := by
  intro m meth c P g ig mk a X hg hsize hdg hW hn hp'
  obtain ⟨rfl, rfl, r1, r2⟩ := hp'
  have al : Z.vm.Alike P.U.vm := hZ.alike.trans X.warmed.alike
  obtain ⟨D, cfV, kV, iV, fV, hD, gV, stV, knV, obV, asV, slV⟩ := id V
  obtain ⟨D', cfC, kC, iC, fC, hD', gC, stC, -, -, asC, slC⟩ := id C
  cases hD.symm.trans hD'
  obtain ⟨D2, kD, e1, e2, e3, e4, e5⟩ := id E
  cases hD.symm.trans e1
  obtain ⟨c2, k2, i1, i2, i3, -⟩ := Cond.instantiable_spec wi
  cases e2.symm.trans i1
  cases e3.symm.trans i2
  obtain ⟨kU, u1, u2⟩ := al.2.2 _ _ e3
  have hB : Blank ST x D P.U := ⟨hD, ⟨knV, fun q hq => by rw [hq] at obV; cases obV⟩, by rw [al.findClass]; exact e2, kU, u1, by rw [u2]; exact i3, by rw [u2]; exact e5 i3⟩
  have F1 : Found ST "value" "[B" fV P.U := ⟨SBG.found_only al ⟨cfV, kV, iV, gV⟩, stV⟩
  have F2 : Found ST "coder" "B" fC P.U := ⟨SBG.found_only al ⟨cfC, kC, iC, gC⟩, stC⟩
  have hA : Ch b A P.U := ⟨⟨K.1, State.isArrayOf_alike al K.2.1, K.2.2, by omega⟩, hty⟩
  have hS : StaticIs P.U ST "COMPACT_STRINGS" "Z" (.int z) := by
    obtain ⟨cfS, iS, kS, fS, st, cS, t1, t2, t3, t4, t5, t6, t7⟩ := S
    exact StaticIs.there (s := { Z with heap := P.U.heap }) ⟨cfS, iS, kS, fS, st, cS, t1, t2, t3, t4, t5, (fun q => by rw [q] at t6; cases t6), t7⟩ al rfl
  obtain ⟨v, B, X', ⟨⟨hv, E', V', q1, q2, q3, q4, q5, q6, q7, q8, q9, q10, q11⟩, hl, hc, hs⟩, st⟩ := New1.pays x D fV fC b A z (tab_of (moved hZ hw)) hfr hlo m meth c P g ig mk _ X hg hsize hdg hW hn ⟨r1, r2, rfl, hB, F1, F2, hA, hS, hz, l0, l2, hp⟩
  have al' : Z.vm.Alike B.U.vm := hZ.alike.trans X'.warmed.alike
  have hsz : E'.slots.size = D.slots.size := by
    obtain ⟨-, -, -, kB, w1, w2, w3⟩ := q1
    obtain ⟨kB', y1, y2⟩ := al'.2.2 _ _ e3
    rw [q2.2.1] at w1
    cases w1.symm.trans y1
    rw [w3, e5 i3, y2]
  refine ⟨v, B, X', ⟨_, ⟨hv, ?_, ⟨by omega, fun y cy hy hn' => q10 y cy (by simpa using hn') hy, fun y cy hy => ?_⟩, q11, ⟨E', _, q1.1, by rw [q2.2.1]; exact e2, by rw [q2.2.1]; exact e3, by rw [q2.1]; exact obV, fun _ => by rw [hsz]; exact e5 i3⟩,
    ⟨E', cfV, kV, iV, fV, q1.1, gV, stV, by rw [q2.1]; exact knV, by rw [q2.1]; exact obV, by rw [q2.2.1]; exact asV, q3⟩, ⟨E', cfC, kC, iC, fC, q1.1, gC, stC, by rw [q2.1]; exact knV, by rw [q2.1]; exact obV, by rw [q2.2.1]; exact asC, q4⟩,
    ⟨V', ⟨q5.1, State.isArrayOf_alike al'.symm q5.2.1, q5.2.2.1⟩, q6, by rw [← al'.findClass]; exact q7, q8, fun j hj => by have := q9 j hj; rwa [Nat.zero_add] at this⟩, fun O n d w F n1 n2 => ?_⟩, hl, hc, hs⟩, st⟩
  · intro y hy
    simp only [List.mem_cons, List.not_mem_nil, or_false] at hy
    rcases hy with rfl | rfl <;> rfl
  · by_cases q : y = x
    · subst q
      cases hD.symm.trans hy
      exact ⟨E', q1.1, q2.2.1, q2.1, hsz⟩
    · exact ⟨cy, q10 y cy q hy, rfl, rfl, rfl⟩
  · obtain ⟨D3, cf, k, i, f, g1, g2, g3, g4, g5, g6, g7⟩ := F
    cases hD.symm.trans g1
    simp only [RoadKit.slotOf, g2, gV, gC, Option.map_some, Option.getD_some] at n1 n2
    exact ⟨E', cf, k, i, f, q1.1, g2, g3, by rw [q2.1]; exact g4, by rw [q2.1]; exact g5, by rw [q2.2.1]; exact g6, by rw [q2.2.2 f.slot (by simp [n1, n2])]; exact g7⟩
end StrChars.Road
end Jvm.Pilot.@@N@@
@@BLOCK:TracedD.lean.txt@@
namespace Jvm.Pilot.@@N@@
open Jvm Jvm.ClassFile Sem Op Lib Jvm.Free Jvm.Stand Jvm.LawKit Jvm.RoadKit Bundle Jvm.Pilot.@@N@@.Jvm.D
abbrev un : Slot := .unset
theorem own_tn {j : Int32} {i : Nat} (hj : j.toInt = (i : Int)) : j.toNatClampNeg = i := by
  simp only [Int32.toNatClampNeg, hj]; rfl
theorem own_inb {j : Int32} {i n k : Nat} (hj : j.toInt = (i : Int)) (hi : i < n) (hn : k = n) : ¬ (j < 0 ∨ k ≤ j.toNatClampNeg) := by
  rw [own_tn hj, hn]
  rintro (h | h)
  · rw [Int32.lt_iff_toInt_lt, hj] at h
    have e0 : (0 : Int32).toInt = 0 := rfl
    omega
  · omega
theorem own_selP {s : State} {a1 a2 : Array Value} {y : MethodName} {n : Nat} (wi : (Jvm.Cond.instantiable y.cls n).before a1 s = true) (hpriv : s.PrivateAt y) (hinst : (Jvm.Cond.instanceMethod y).before a2 s = true) (hy : y.cls ≠ "java/lang/invoke/MethodHandle" ∧ y.cls ≠ "java/lang/invoke/VarHandle") : (Jvm.Cond.selects y.cls y y).before a2 s = true := by
  obtain ⟨c, k, h1, h2, h3, h4, -⟩ := Cond.instantiable_spec wi
  exact selects_self_of_private h1 h2 (by simp at h4; exact h4.1) hpriv hinst hy
def Ends (tb : Tables) (e : Env) (below : List Frame) (G : State → Outcome → Prop) (S : State) : Prop := ∃ s₂ o, Steps tb e below S s₂ ∧ s₂.status = .running ∧ Ended s₂ below o ∧ G s₂ o
section OwnEnds
variable {tb : Tables} {e : Env} {below : List Frame} {G : State → Outcome → Prop} {S S' : State}
theorem Ends.go (h : ∀ t, Steps tb e below S' t → Steps tb e below S t) (k : Ends tb e below G S') : Ends tb e below G S := by
  obtain ⟨s₂, o, a, b⟩ := k
  exact ⟨s₂, o, h _ a, b⟩
theorem Ends.any (h : ∀ G', (∀ s₂ o, G s₂ o → G' s₂ o) → Ends tb e below G' S) : Ends tb e below G S := h G fun _ _ k => k
end OwnEnds
section OwnFin
variable {p : Program} {l : Launch} {e : Env} {R : Room} {s : State} {m : MethodId} {args : Array Value} {below : List Frame} {meth : Method} {c : Code} {T : State} {locs : List Loc} {cells slots : Nat} {G : State → Outcome → Prop}
theorem own_finI (X : Stand p l e R s m args below meth c T locs cells slots) (hx : p.tables.exec = Jvm.exec) {pc : Nat} {Ls : Array Slot} {z : Int32} {rest : List Value} (hret : meth.sig.returnType = some .int) (hlk : meth.locks = false) (hd : decode c.code pc = .ok (.ireturn, 1)) {Q : Option Value → Heap → List Loc → Prop} {C K : Nat}
    (hG : ∀ s₂ o, (∃ v L, o = .returned v ∧ Q v s₂.heap L ∧ FrameEnd s o s₂ L C K) → G s₂ o) (hC : cells ≤ C) (hK : slots ≤ K) (hQ : Q (some (.int z)) T.heap locs) : Ends p.tables e below G (T.setTop (mkF m pc Ls (.int z :: rest))) := by
  obtain ⟨fs, hr, hrun, hended, hW, hsame⟩ := X.leave (v := some (.int z)) (fun h => by rw [hret] at h; cases h)
  exact ⟨_, _, retI X hx hret hd hr, hrun, hended, hG _ _ ⟨_, _, rfl, hQ, ⟨_, rfl⟩, hW, hsame.mono hC hK⟩⟩
theorem own_finS (X : Stand p l e R s m args below meth c T locs cells slots) (hx : p.tables.exec = Jvm.exec) {t : FieldType} {pc : Nat} {Ls : Array Slot} {z : Int32} {rest : List Value} (hret : meth.sig.returnType = some t) (ht : t = .boolean ∨ t = .byte ∨ t = .char ∨ t = .short) (hlk : meth.locks = false) (hd : decode c.code pc = .ok (.ireturn, 1)) {Q : Option Value → Heap → List Loc → Prop} {C K : Nat}
    (hG : ∀ s₂ o, (∃ v L, o = .returned v ∧ Q v s₂.heap L ∧ FrameEnd s o s₂ L C K) → G s₂ o) (hC : cells ≤ C) (hK : slots ≤ K) (hQ : Q (some (.int (nar t z))) T.heap locs) : Ends p.tables e below G (T.setTop (mkF m pc Ls (.int z :: rest))) := by
  obtain ⟨fs, hr, hrun, hended, hW, hsame⟩ := X.leave (v := some (.int (nar t z))) (fun h => by rw [hret] at h; cases h)
  exact ⟨_, _, retN X hx (t := t) hret ht hd hr, hrun, hended, hG _ _ ⟨_, _, rfl, hQ, ⟨_, rfl⟩, hW, hsame.mono hC hK⟩⟩
theorem own_finN (X : Stand p l e R s m args below meth c T locs cells slots) (hx : p.tables.exec = Jvm.exec) {pc : Nat} {Ls : Array Slot} (hret : meth.sig.returnType = none) (hlk : meth.locks = false) (hd : decode c.code pc = .ok (.return_, 1)) {Q : Option Value → Heap → List Loc → Prop} {C K : Nat}
    (hG : ∀ s₂ o, (∃ v L, o = .returned v ∧ Q v s₂.heap L ∧ FrameEnd s o s₂ L C K) → G s₂ o) (hC : cells ≤ C) (hK : slots ≤ K) (hQ : Q none T.heap locs) : Ends p.tables e below G (T.setTop (mkF m pc Ls [])) := by
  obtain ⟨fs, hr, hrun, hended, hW, hsame⟩ := X.leave (v := none) (fun _ => rfl)
  exact ⟨_, _, X.returnOut hx hret hd hr, hrun, hended, hG _ _ ⟨_, _, rfl, hQ, ⟨_, rfl⟩, hW, hsame.mono hC hK⟩⟩
end OwnFin
/-- an array by what each place holds -/
def AF (Z : State) (h : Heap) (a : Addr) (ty : FieldType) (n : Nat) (f : Nat → Value) : Prop := ∃ c : Cell, Arr Z h a c ty ∧ c.slots.size = n ∧ ∀ j, j < n → c.slots[j]? = some (f j)
section OwnAF
variable {Z : State} {h h' : Heap} {a b : Addr} {ty : FieldType} {n sl : Nat} {f g : Nat → Value} {v : Value} {ws : List Addr}
theorem AF.lt (F : AF Z h a ty n f) : a < h.size := by obtain ⟨c, A, -⟩ := F; exact A.lt
theorem AF.ext (F : AF Z h a ty n f) (E : Ext h h') : AF Z h' a ty n f := by obtain ⟨c, A, r⟩ := F; exact ⟨c, A.ext E, r⟩
theorem AF.other (F : AF Z h b ty n f) (W : Wr h h' a sl v) (q : b ≠ a) : AF Z h' b ty n f := by obtain ⟨c, A, r⟩ := F; exact ⟨c, A.other W q, r⟩
theorem AF.keep (F : AF Z h a ty n f) (K : Keep h h' ws) (q : a ∉ ws) : AF Z h' a ty n f := by obtain ⟨c, A, r⟩ := F; exact ⟨c, ⟨K.2.1 a c A.1 q, A.2⟩, r⟩
theorem AF.congr (F : AF Z h a ty n f) (q : ∀ j, j < n → f j = g j) : AF Z h a ty n g := by obtain ⟨c, A, r, u⟩ := F; exact ⟨c, A, r, fun j hj => by rw [u j hj, q j hj]⟩
theorem AF.new {k : ClassId} {z : Int32} (A : Arr Z h a (newA k ty z) ty) (q : z.toNatClampNeg = n) : AF Z h a ty n (fun _ => defaultValue ty) := ⟨_, A, by rw [sz_new]; exact q, fun i hi => by
  rw [← q] at hi; simp [newA, hi]⟩
theorem AF.set (F : AF Z h a ty n f) (W : Wr h h' a sl v) (hs : sl < n) : AF Z h' a ty n (fun k => if k = sl then v else f k) := by
  obtain ⟨c, A, r, u⟩ := F
  refine ⟨_, A.same W, by rw [sz_set]; exact r, fun j hj => ?_⟩
  by_cases q : j = sl
  · subst q; simp [Cell.setSlot, r, hj]
  · have := u j hj
    simp only [Cell.setSlot, if_neg q]
    rw [Array.getElem?_setIfInBounds_ne (fun z => q z.symm)]; exact this
variable {p : Program} {l : Launch} {e : Env} {R : Room} {s : State} {m : MethodId} {args : Array Value} {below : List Frame} {meth : Method} {c : Code} {T : State} {locs : List Loc} {cells slots : Nat}
theorem AF.ldB (F : AF Z h a .byte n f) (X : Stand p l e R s m args below meth c T locs cells slots) (hx : p.tables.exec = Jvm.exec) (hZ : Z.Warmed39 s.vm) (eT : T.heap = h) {j : Int32} {i : Nat} (hj : j.toInt = (i : Int)) (hi : i < n) {v : Value} (hv : f i = v) {g : JFrame} (hg : g.method = m) {rest : List Value} (hs : g.stack = .int j :: .ref a :: rest) (hd : decode c.code g.pc = .ok (.baload, 1)) (target : State)
    (k : Steps p.tables e below (T.setTop { g with pc := g.pc + 1, stack := v :: rest }) target) : Steps p.tables e below (T.setTop g) target := by
  obtain ⟨cl, A, r, u⟩ := F
  exact X.baloadBytes hx (by rw [eT]; exact A.1) (State.isArrayOf_alike hZ.alike A.2.1) A.2.2 (own_inb hj hi r) (by rw [own_tn hj, u i hi, hv]) hg hs hd _ k
theorem AF.ldC (F : AF Z h a .char n f) (X : Stand p l e R s m args below meth c T locs cells slots) (hx : p.tables.exec = Jvm.exec) (hZ : Z.Warmed39 s.vm) (eT : T.heap = h) {j : Int32} {i : Nat} (hj : j.toInt = (i : Int)) (hi : i < n) {v : Value} (hv : f i = v) {g : JFrame} (hg : g.method = m) {rest : List Value} (hs : g.stack = .int j :: .ref a :: rest) (hd : decode c.code g.pc = .ok (.caload, 1)) (target : State)
    (k : Steps p.tables e below (T.setTop { g with pc := g.pc + 1, stack := v :: rest }) target) : Steps p.tables e below (T.setTop g) target := by
  obtain ⟨cl, A, r, u⟩ := F
  exact X.caload hx (by rw [eT]; exact A.1) (State.isArrayOf_alike hZ.alike A.2.1) A.2.2 (own_inb hj hi r) (by rw [own_tn hj, u i hi, hv]) hg hs hd _ k
theorem AF.ldJ (F : AF Z h a .long n f) (X : Stand p l e R s m args below meth c T locs cells slots) (hx : p.tables.exec = Jvm.exec) (hZ : Z.Warmed39 s.vm) (eT : T.heap = h) {j : Int32} {i : Nat} (hj : j.toInt = (i : Int)) (hi : i < n) {v : Value} (hv : f i = v) {g : JFrame} (hg : g.method = m) {rest : List Value} (hs : g.stack = .int j :: .ref a :: rest) (hd : decode c.code g.pc = .ok (.laload, 1)) (target : State)
    (k : Steps p.tables e below (T.setTop { g with pc := g.pc + 1, stack := v :: rest }) target) : Steps p.tables e below (T.setTop g) target := by
  obtain ⟨cl, A, r, u⟩ := F
  exact X.laload hx (by rw [eT]; exact A.1) (State.isArrayOf_alike hZ.alike A.2.1) A.2.2 (own_inb hj hi r) (by rw [own_tn hj, u i hi, hv]) hg hs hd _ k
theorem AF.len (F : AF Z h a ty n f) (X : Stand p l e R s m args below meth c T locs cells slots) (hx : p.tables.exec = Jvm.exec) (hZ : Z.Warmed39 s.vm) (eT : T.heap = h) {z : Int32} (hz : n.toInt32 = z) {g : JFrame} (hg : g.method = m) {rest : List Value} (hs : g.stack = .ref a :: rest) (hd : decode c.code g.pc = .ok (.arraylength, 1)) (target : State)
    (k : Steps p.tables e below (T.setTop { g with pc := g.pc + 1, stack := .int z :: rest }) target) : Steps p.tables e below (T.setTop g) target := by
  obtain ⟨cl, A, r, u⟩ := F
  subst hz r
  exact X.arraylength hx (by rw [eT]; exact A.1) (State.isArrayOf_alike hZ.alike A.2.1) hg hs hd _ k
theorem AF.stB (F : AF Z h a .byte n f) (X : Stand p l e R s m args below meth c T locs cells slots) (hx : p.tables.exec = Jvm.exec) (hZ : Z.Warmed39 s.vm) (eT : T.heap = h) {j x : Int32} {i : Nat} (hj : j.toInt = (i : Int)) (hi : i < n) {g : JFrame} (hg : g.method = m) {rest : List Value} (hs : g.stack = .int x :: .int j :: .ref a :: rest) (hd : decode c.code g.pc = .ok (.bastore, 1)) :
    ∃ T' h', Stand p l e R s m args below meth c T' (locs ++ [⟨a, i⟩]) cells slots ∧ T'.heap = h' ∧ Wr h h' a i (.int (nar .byte x)) ∧ AF Z h' a .byte n (fun k => if k = i then .int (nar .byte x) else f k) ∧ ∀ target, Steps p.tables e below (T'.setTop { g with pc := g.pc + 1, stack := rest }) target → Steps p.tables e below (T.setTop g) target := by
  have F' := F
  obtain ⟨cl, A, r, u⟩ := F
  obtain ⟨T', h', X', e', W', st⟩ := RoadKit.stB X hx hZ eT A (own_inb hj hi r) hg hs hd
  rw [own_tn hj] at X' W'
  exact ⟨T', h', X', e', W', F'.set W' hi, st⟩
theorem AF.stC (F : AF Z h a .char n f) (X : Stand p l e R s m args below meth c T locs cells slots) (hx : p.tables.exec = Jvm.exec) (hZ : Z.Warmed39 s.vm) (eT : T.heap = h) {j x : Int32} {i : Nat} (hj : j.toInt = (i : Int)) (hi : i < n) {g : JFrame} (hg : g.method = m) {rest : List Value} (hs : g.stack = .int x :: .int j :: .ref a :: rest) (hd : decode c.code g.pc = .ok (.castore, 1)) :
    ∃ T' h', Stand p l e R s m args below meth c T' (locs ++ [⟨a, i⟩]) cells slots ∧ T'.heap = h' ∧ Wr h h' a i (.int (nar .char x)) ∧ AF Z h' a .char n (fun k => if k = i then .int (nar .char x) else f k) ∧ ∀ target, Steps p.tables e below (T'.setTop { g with pc := g.pc + 1, stack := rest }) target → Steps p.tables e below (T.setTop g) target := by
  have F' := F
  obtain ⟨cl, A, r, u⟩ := F
  obtain ⟨T', h', X', e', W', st⟩ := RoadKit.stC X hx hZ eT A (own_inb hj hi r) hg hs hd
  rw [own_tn hj] at X' W'
  exact ⟨T', h', X', e', W', F'.set W' hi, st⟩
theorem AF.stJ (F : AF Z h a .long n f) (X : Stand p l e R s m args below meth c T locs cells slots) (hx : p.tables.exec = Jvm.exec) (hZ : Z.Warmed39 s.vm) (eT : T.heap = h) {j : Int32} {x : Int64} {i : Nat} (hj : j.toInt = (i : Int)) (hi : i < n) {g : JFrame} (hg : g.method = m) {rest : List Value} (hs : g.stack = .long x :: .int j :: .ref a :: rest) (hd : decode c.code g.pc = .ok (.lastore, 1)) :
    ∃ T' h', Stand p l e R s m args below meth c T' (locs ++ [⟨a, i⟩]) cells slots ∧ T'.heap = h' ∧ Wr h h' a i (.long x) ∧ AF Z h' a .long n (fun k => if k = i then .long x else f k) ∧ ∀ target, Steps p.tables e below (T'.setTop { g with pc := g.pc + 1, stack := rest }) target → Steps p.tables e below (T.setTop g) target := by
  have F' := F
  obtain ⟨cl, A, r, u⟩ := F
  obtain ⟨T', h', X', e', W', st⟩ := RoadKit.stJ X hx hZ eT A (own_inb hj hi r) hg hs hd
  rw [own_tn hj] at X' W'
  exact ⟨T', h', X', e', W', F'.set W' hi, st⟩
theorem AF.ldD (F : AF Z h a .double n f) (X : Stand p l e R s m args below meth c T locs cells slots) (hx : p.tables.exec = Jvm.exec) (hZ : Z.Warmed39 s.vm) (eT : T.heap = h) {j : Int32} {i : Nat} (hj : j.toInt = (i : Int)) (hi : i < n) {v : Value} (hv : f i = v) {g : JFrame} (hg : g.method = m) {rest : List Value} (hs : g.stack = .int j :: .ref a :: rest) (hd : decode c.code g.pc = .ok (.daload, 1)) (target : State)
    (k : Steps p.tables e below (T.setTop { g with pc := g.pc + 1, stack := v :: rest }) target) : Steps p.tables e below (T.setTop g) target := by
  obtain ⟨cl, A, r, u⟩ := F
  exact X.daload hx (by rw [eT]; exact A.1) (State.isArrayOf_alike hZ.alike A.2.1) A.2.2 (own_inb hj hi r) (by rw [own_tn hj, u i hi, hv]) hg hs hd _ k
theorem AF.stD (F : AF Z h a .double n f) (X : Stand p l e R s m args below meth c T locs cells slots) (hx : p.tables.exec = Jvm.exec) (hZ : Z.Warmed39 s.vm) (eT : T.heap = h) {j : Int32} {x : UInt64} {i : Nat} (hj : j.toInt = (i : Int)) (hi : i < n) {g : JFrame} (hg : g.method = m) {rest : List Value} (hs : g.stack = .double x :: .int j :: .ref a :: rest) (hd : decode c.code g.pc = .ok (.dastore, 1)) :
    ∃ T' h', Stand p l e R s m args below meth c T' (locs ++ [⟨a, i⟩]) cells slots ∧ T'.heap = h' ∧ Wr h h' a i (.double x) ∧ AF Z h' a .double n (fun k => if k = i then .double x else f k) ∧ ∀ target, Steps p.tables e below (T'.setTop { g with pc := g.pc + 1, stack := rest }) target → Steps p.tables e below (T.setTop g) target := by
  have F' := F
  obtain ⟨cl, A, r, u⟩ := F
  obtain ⟨T', h', X', e', W', st⟩ := RoadKit.stD X hx hZ eT A (own_inb hj hi r) hg hs hd
  rw [own_tn hj] at X' W'
  exact ⟨T', h', X', e', W', F'.set W' hi, st⟩
end OwnAF
theorem own_lt {x y : Int32} {a b : Nat} (hx : x.toInt = (a : Int)) (hy : y.toInt = (b : Int)) : x < y ↔ a < b := by rw [Int32.lt_iff_toInt_lt, hx, hy]; omega
theorem own_eqn {x y : Int32} {a b : Nat} (hx : x.toInt = (a : Int)) (hy : y.toInt = (b : Int)) : x = y ↔ a = b := by rw [← Int32.toInt_inj, hx, hy]; omega
theorem own_add {x y : Int32} {a b : Nat} (hx : x.toInt = (a : Int)) (hy : y.toInt = (b : Int)) (h : a + b < 2147483648) : (x + y).toInt = ((a + b : Nat) : Int) := by
  have q1 := c_iadd x y
  have q2 := rng32 (x + y)
  omega
theorem own_iremM (x y : Int32) : x - (x / y) * y = x % y := by
  apply Int32.toInt_inj.mp
  have h1 := Int32.le_toInt (x % y)
  have h2 := Int32.toInt_lt (x % y)
  rw [Int32.toInt_sub, Int32.toInt_mul, Int32.toInt_div, Int.bmod_mul_bmod, Int.sub_bmod_bmod, Int.mul_comm (x.toInt.tdiv y.toInt), ← Int.tmod_def, ← Int32.toInt_mod]
  exact Int.bmod_eq_of_le_mul_two (by omega) (by omega)
theorem own_iremV {x y : Int32} {b : Nat} (hx : 0 ≤ x.toInt) (hy : y.toInt = (b : Int)) : (x - (x / y) * y).toInt = x.toInt % (b : Int) := by
  rw [own_iremM]; exact (c_irem x y b hy).1 hx
theorem own_irem {x y : Int32} {b : Nat} (hx : 0 ≤ x.toInt) (hy : y.toInt = (b : Int)) (hb : 0 < b) : ∃ r : Nat, r < b ∧ (x - (x / y) * y).toInt = (r : Int) := by
  have h := own_iremV hx hy
  have h1 := Int.emod_nonneg x.toInt (b := (b : Int)) (by omega)
  have h2 := Int.emod_lt_of_pos x.toInt (b := (b : Int)) (by omega)
  exact ⟨(x.toInt % (b : Int)).toNat, by omega, by omega⟩
theorem own_mask31 (x : Int32) : 0 ≤ (x &&& 2147483647).toInt := by
  have h := c_mask x 2147483647 31 (by decide) (by decide)
  rw [h]; exact Int.emod_nonneg _ (by decide)
theorem own_ne0 {y : Int32} {b : Nat} (hy : y.toInt = (b : Int)) (hb : 0 < b) : y ≠ 0 := fun h => by
  subst h
  have : (0 : Int32).toInt = 0 := rfl
  omega
/-- a byte[] of z bytes, whatever they are -/
def BA (Z : State) (h : Heap) (a : Addr) (z : Int32) : Prop := ∃ k vs, Arv Z h a k .byte z vs (.int 0)
section OwnBA
variable {Z : State} {h h' : Heap} {a b : Addr} {z z' : Int32} {sl : Nat} {v : Value} {ws : List Addr} {a0 : Array Value} {C : String} {n : Nat}
theorem BA.lt (F : BA Z h a z) : a < h.size := by obtain ⟨k, vs, A⟩ := F; exact A.lt
theorem BA.ext (F : BA Z h a z) (E : Ext h h') : BA Z h' a z := by obtain ⟨k, vs, A⟩ := F; exact ⟨k, vs, A.ext E⟩
theorem BA.other (F : BA Z h b z) (W : Wr h h' a sl v) (q : b ≠ a) : BA Z h' b z := by obtain ⟨k, vs, A⟩ := F; exact ⟨k, vs, A.other W q⟩
theorem BA.keep (F : BA Z h a z) (K : Keep h h' ws) (q : a ∉ ws) : BA Z h' a z := by obtain ⟨k, vs, A⟩ := F; exact ⟨k, vs, A.keep K q⟩
theorem BA.new {k : ClassId} (A : Arr Z h a (newA k .byte z) .byte) (q : ¬ z < 0) : BA Z h a z := ⟨k, [], Arv.new A q⟩
theorem BA.nn (F : BA Z h a z) : ¬ z < 0 := by obtain ⟨k, vs, c, A, q1, S, q3, r⟩ := F; exact q3
theorem own_neB (E : Exa Z h b C) (F : BA Z h a z) (w : (Jvm.Cond.instantiable C n).before a0 Z = true) : b ≠ a := by obtain ⟨k, vs, A⟩ := F; exact Exa.neArv E A w
variable {p : Program} {l : Launch} {e : Env} {R : Room} {s : State} {m : MethodId} {args : Array Value} {below : List Frame} {meth : Method} {c : Code} {T : State} {locs : List Loc} {cells slots : Nat}
theorem BA.len (F : BA Z h a z) (X : Stand p l e R s m args below meth c T locs cells slots) (hx : p.tables.exec = Jvm.exec) (hZ : Z.Warmed39 s.vm) (eT : T.heap = h) {g : JFrame} (hg : g.method = m) {rest : List Value} (hs : g.stack = .ref a :: rest) (hd : decode c.code g.pc = .ok (.arraylength, 1)) (target : State)
    (k : Steps p.tables e below (T.setTop { g with pc := g.pc + 1, stack := .int z :: rest }) target) : Steps p.tables e below (T.setTop g) target := by
  obtain ⟨kk, vs, cl, A, q1, S, q3, r⟩ := F
  exact X.arraylength hx (by rw [eT]; exact A.1) (State.isArrayOf_alike hZ.alike A.2.1) hg hs hd _ (by rw [len_of S q3]; exact k)
theorem BA.cp (A : BA Z h a z) (B : BA Z h b z') (X : Stand p l e R s m args below meth c T locs cells slots) (hx : p.tables.exec = Jvm.exec) (hZ : Z.Warmed39 s.vm) {own : String} {index : Nat} (hown : s.vm.findClass own = some m.cls)
    (w1 : (Cond.methodLink own index Jvm.Stand.acN).before a0 Z = true) (w2 : (Cond.native Jvm.Stand.acN).before a0 Z = true) (w3 : (Cond.static Jvm.Stand.acN).before a0 Z = true) (w4 : (Cond.initialized "java/lang/System").before a0 Z = true) (eT : T.heap = h)
    {sp dp nn : Int32} {zs zd sn dn k : Nat} (hzs : z.toInt = (zs : Int)) (hzd : z'.toInt = (zd : Int)) (hsp : sp.toInt = (sn : Int)) (hdp : dp.toInt = (dn : Int)) (hnn : nn.toInt = (k : Int)) (h4 : sn + k ≤ zs) (h5 : dn + k ≤ zd) {n0 : Nat} (N : Fr n0 locs) (ge : n0 ≤ b)
    {g : JFrame} (hg : g.method = m) (hsize : g.locals.size = c.maxLocals) {rest : List Value} (hs : g.stack = .int nn :: .int dp :: .ref b :: .int sp :: .ref a :: rest) (hd : decode c.code g.pc = .ok (.invokestatic index, 3))
    (hf : 1 ≤ R.frames) {W : Nat} (hW : 2 * g.monitorRoom + (rest.map fun v => v.category).sum ≤ W) (hlo : W + (nativeFrameWords "java/lang/System" "arraycopy" 5 + 11) ≤ R.locals) :
    ∃ T' h' L, Stand p l e R s m args below meth c T' L cells slots ∧ T'.heap = h' ∧ Fr n0 L ∧ Keep h h' [b] ∧ BA Z h' b z' ∧
      ∀ target, Steps p.tables e below (T'.setTop { g with pc := g.pc + 3, stack := rest }) target → Steps p.tables e below (T.setTop g) target := by
  obtain ⟨k1, vs, A⟩ := A
  obtain ⟨k2, vd, B⟩ := B
  have pos : ∀ {x : Int32} {i : Nat}, x.toInt = (i : Int) → ¬ x < 0 := fun {x i} q => by
    rw [Int32.lt_iff_toInt_lt, q]; have o0 : (0 : Int32).toInt = 0 := rfl
    omega
  have B' : Arv Z h b k2 .byte z' (vd ++ List.replicate zd (.int 0)) (.int 0) := B.pad (pad_rep vd (.int 0) zd)
  obtain ⟨T', h', L, X', e', N', K', V', st⟩ := cpA X hx hZ hown w1 w2 w3 w4 eT A B' (Or.inl ⟨rfl, rfl⟩) (pos hsp) (pos hdp) (pos hnn) (by rw [own_tn hsp, own_tn hnn, own_tn hzs]; exact h4) (by rw [own_tn hdp, own_tn hnn, own_tn hzd]; exact h5) rfl
    (by rw [own_tn hdp, own_tn hnn, List.length_append, List.length_replicate]; omega) N ge hg hsize hs hd hf hW hlo
  exact ⟨T', h', L, X', e', N', K', ⟨_, _, V'⟩, st⟩
end OwnBA
/-- a Latin-1 String of z bytes -/
def STF (Z : State) (h : Heap) (x d : Addr) (z : Int32) : Prop := Exa Z h x "java/lang/String" ∧ Fld Z h x "java/lang/String" "value" "[B" (.ref d) ∧ Fld Z h x "java/lang/String" "coder" "B" (.int 0) ∧ BA Z h d z
/-- a Latin-1 builder: her array d of zA bytes, her count zn -/
def SBF (Z : State) (h : Heap) (b d : Addr) (zA zn : Int32) : Prop := Exa Z h b "java/lang/StringBuilder" ∧ Fld Z h b "java/lang/AbstractStringBuilder" "value" "[B" (.ref d) ∧ Fld Z h b "java/lang/AbstractStringBuilder" "coder" "B" (.int 0) ∧ Fld Z h b "java/lang/AbstractStringBuilder" "count" "I" (.int zn) ∧ BA Z h d zA ∧ Exa Z h d "[B"
section OwnSF
variable {Z : State} {h h' : Heap} {x b d d' : Addr} {z zA zn : Int32} {ws : List Addr}
theorem STF.ext (F : STF Z h x d z) (E : Ext h h') : STF Z h' x d z := ⟨F.1.ext E, F.2.1.ext E, F.2.2.1.ext E, BA.ext F.2.2.2 E⟩
theorem STF.keep (F : STF Z h x d z) (K : Keep h h' ws) (q : x ∉ ws) (r : d ∉ ws) : STF Z h' x d z := ⟨Exa.keep F.1 K, Fld.keep F.2.1 K q, Fld.keep F.2.2.1 K q, BA.keep F.2.2.2 K r⟩
theorem SBF.ext (F : SBF Z h b d zA zn) (E : Ext h h') : SBF Z h' b d zA zn := ⟨F.1.ext E, F.2.1.ext E, F.2.2.1.ext E, F.2.2.2.1.ext E, BA.ext F.2.2.2.2.1 E, F.2.2.2.2.2.ext E⟩
theorem SBF.keep (F : SBF Z h b d zA zn) (K : Keep h h' ws) (q : b ∉ ws) (r : d ∉ ws) : SBF Z h' b d zA zn := ⟨Exa.keep F.1 K, Fld.keep F.2.1 K q, Fld.keep F.2.2.1 K q, Fld.keep F.2.2.2.1 K q, BA.keep F.2.2.2.2.1 K r, Exa.keep F.2.2.2.2.2 K⟩
theorem SBF.bd (F : SBF Z h b d zA zn) : b ≠ d := Exa.ne F.1 F.2.2.2.2.2 (by decide)
theorem own_bx (F : SBF Z h b d zA zn) (G : STF Z h x d' z) : b ≠ x := Exa.ne F.1 G.1 (by decide)
theorem own_xd (F : SBF Z h b d zA zn) (G : STF Z h x d' z) : x ≠ d := Exa.ne G.1 F.2.2.2.2.2 (by decide)
theorem STF.xd {a0 : Array Value} {n : Nat} (G : STF Z h x d z) (w : (Jvm.Cond.instantiable "java/lang/String" n).before a0 Z = true) : x ≠ d := own_neB G.1 G.2.2.2 w
end OwnSF
theorem own_nf {s : State} {a1 : Array Value} {C : String} {y y2 : MethodName} (hc : y.cls = y2.cls) (hsel : (Jvm.Cond.selects C y2 y2).before a1 s = true) : NotFace s y := fun r0 h0 => by
  obtain ⟨c2, r2, m2, -, -, q3, -, kP, hkP, hi⟩ := Cond.selects_spec hsel
  have e1 := findClass_of_methodNamed h0
  have e2 := findClass_of_methodNamed q3
  rw [hc] at e1
  have e3 := Option.some.inj (e1.symm.trans e2)
  exact ⟨kP, by rw [e3]; exact hkP, hi⟩
theorem own_selC {s : State} {a1 a2 : Array Value} {C : String} {y : MethodName} (hsel : (Jvm.Cond.selects C y y).before a1 s = true) (hpriv : s.PrivateAt y) (hinst : (Jvm.Cond.instanceMethod y).before a2 s = true) (hy : y.cls ≠ "java/lang/invoke/MethodHandle" ∧ y.cls ≠ "java/lang/invoke/VarHandle") : (Jvm.Cond.selects y.cls y y).before a2 s = true := by
  obtain ⟨c2, r2, m2, -, -, q3, -, kP, hkP, hi⟩ := Cond.selects_spec hsel
  exact selects_self_of_private (findClass_of_methodNamed q3) hkP hi hpriv hinst hy
theorem own_same {s : State} {a1 a2 : Array Value} {C : String} {y y2 : MethodName} (hc : y.cls = y2.cls) (hsel : (Jvm.Cond.selects C y2 y2).before a1 s = true) (hinst : (Jvm.Cond.instanceMethod y).before a2 s = true) (hy : y.cls ≠ "java/lang/invoke/MethodHandle" ∧ y.cls ≠ "java/lang/invoke/VarHandle") : (Jvm.Cond.sameMethod y.cls y.cls y.name y.desc).before a2 s = true := by
  obtain ⟨mk, methM, hnamed, -, -, -⟩ := Cond.instanceMethod_spec hinst
  obtain ⟨kr, hkr, hni⟩ := own_nf hc hsel mk hnamed
  have hf := State.methodFound?_of_named hnamed hy
  have hcl := findClass_of_methodNamed hnamed
  simp only [Cond.before, Cond.holds, Cond.value, hcl, hf, hnamed, hkr]
  simp [hni]
theorem own_shr0 (z : Int32) : z >>> ((0 : Int32) &&& 31) = z := by
  apply Int32.toInt_inj.mp
  rw [show ((0 : Int32) &&& 31) = 0 from rfl]
  simp
theorem own_shl0 (z : Int32) : z <<< ((0 : Int32) &&& 31) = z := by
  apply Int32.toInt_inj.mp
  rw [show ((0 : Int32) &&& 31) = 0 from rfl]
  simp
theorem own_nar0 : nar .byte (0 : Int32) = 0 := rfl
theorem own_nar01 {ch : Int32} (h : ch = 0 ∨ ch = 1) : nar .boolean ch = ch := by rcases h with rfl | rfl <;> rfl
theorem own_sub {x y : Int32} {a b : Nat} (hx : x.toInt = (a : Int)) (hy : y.toInt = (b : Int)) (h : b ≤ a) (ha : a < 2147483648) : (x - y).toInt = ((a - b : Nat) : Int) := by
  have q1 := c_isub x y
  have q2 := rng32 (x - y)
  omega
/-- what refusedMessage and expected say -/
def own_E (ch code : Int32) : Int32 := if ch = 0 then 0 else if code = 406 then 1 else 0
section OwnFinR
variable {p : Program} {l : Launch} {e : Env} {R : Room} {s : State} {m : MethodId} {args : Array Value} {below : List Frame} {meth : Method} {c : Code} {T : State} {locs : List Loc} {cells slots : Nat} {G : State → Outcome → Prop}
theorem own_finR (X : Stand p l e R s m args below meth c T locs cells slots) (hx : p.tables.exec = Jvm.exec) {t : FieldType} {pc : Nat} {Ls : Array Slot} {a : Addr} {rest : List Value} (hret : meth.sig.returnType = some t) (ht : t.isReference = true) (hlk : meth.locks = false) (hd : decode c.code pc = .ok (.areturn, 1)) {Q : Option Value → Heap → List Loc → Prop} {C K : Nat}
    (hG : ∀ s₂ o, (∃ v L, o = .returned v ∧ Q v s₂.heap L ∧ FrameEnd s o s₂ L C K) → G s₂ o) (hC : cells ≤ C) (hK : slots ≤ K) (hQ : Q (some (.ref a)) T.heap locs) : Ends p.tables e below G (T.setTop (mkF m pc Ls (.ref a :: rest))) := by
  obtain ⟨fs, hr, hrun, hended, hW, hsame⟩ := X.leave (v := some (.ref a)) (fun h => by rw [hret] at h; cases h)
  exact ⟨_, _, retOut X hx hret (narrow_ref _ _) (Or.inr (Or.inr (Or.inr (Or.inr ⟨rfl, ht, rfl⟩)))) hd hr, hrun, hended, hG _ _ ⟨_, _, rfl, hQ, ⟨_, rfl⟩, hW, hsame.mono hC hK⟩⟩
theorem own_finW {vm1 : Vm} (X : Stand p l e R (s.setVm vm1) m args below meth c T locs cells slots) {k0 : Nat} (hS : s.Since vm1 k0) (hk : k0 ≤ T.heap.size) (hx : p.tables.exec = Jvm.exec) {pc : Nat} {Ls : Array Slot} (hret : meth.sig.returnType = none) (hlk : meth.locks = false) (hd : decode c.code pc = .ok (.return_, 1)) {Q : Option Value → Heap → List Loc → Prop} {P : Vm → Heap → Prop} {C K : Nat}
    (hG : ∀ s₂ o, (∃ v L, o = .returned v ∧ Q v s₂.heap L ∧ P s₂.vm s₂.heap ∧ ReturnedEndW s o s₂ L C K) → G s₂ o) (hC : cells ≤ C) (hK : slots ≤ K) (hQ : Q none T.heap locs) (hP : P T.vm T.heap) : Ends p.tables e below G (T.setTop (mkF m pc Ls [])) := by
  obtain ⟨fs, hr, hrun, hended, h1, h2, h3, h4⟩ := X.leaveW hS hk (v := none) (fun _ => rfl)
  exact ⟨_, _, X.returnOut hx hret hd hr, hrun, hended, hG _ _ ⟨_, _, rfl, hQ, hP, h1, h2, h3, h4.mono hC hK⟩⟩
theorem own_finWS {vm1 : Vm} (X : Stand p l e R (s.setVm vm1) m args below meth c T locs cells slots) {k0 : Nat} (hS : s.Since vm1 k0) (hk : k0 ≤ T.heap.size) (hx : p.tables.exec = Jvm.exec) {t : FieldType} {pc : Nat} {Ls : Array Slot} {z : Int32} {rest : List Value} (hret : meth.sig.returnType = some t) (ht : t = .boolean ∨ t = .byte ∨ t = .char ∨ t = .short) (hlk : meth.locks = false) (hd : decode c.code pc = .ok (.ireturn, 1)) {Q : Option Value → Heap → List Loc → Prop} {C K : Nat}
    (hG : ∀ s₂ o, (∃ v L, o = .returned v ∧ Q v s₂.heap L ∧ ReturnedEndW s o s₂ L C K) → G s₂ o) (hC : cells ≤ C) (hK : slots ≤ K) (hQ : Q (some (.int (nar t z))) T.heap locs) : Ends p.tables e below G (T.setTop (mkF m pc Ls (.int z :: rest))) := by
  obtain ⟨fs, hr, hrun, hended, h1, h2, h3, h4⟩ := X.leaveW hS hk (v := some (.int (nar t z))) (fun h => by rw [hret] at h; cases h)
  exact ⟨_, _, retN X hx (t := t) hret ht hd hr, hrun, hended, hG _ _ ⟨_, _, rfl, hQ, h1, h2, h3, h4.mono hC hK⟩⟩
end OwnFinR
theorem d14_0 : decode jdk_42_method_152_code 0 = .ok (.getstatic 38, 3) := by decide +kernel
theorem d14_3 : decode jdk_42_method_152_code 3 = .ok (.ifCond .eq 10, 3) := by decide +kernel
theorem d14_6 : decode jdk_42_method_152_code 6 = .ok (.aload_n 0, 1) := by decide +kernel
theorem d14_7 : decode jdk_42_method_152_code 7 = .ok (.getfield 15, 3) := by decide +kernel
theorem d14_10 : decode jdk_42_method_152_code 10 = .ok (.goto 4, 3) := by decide +kernel
theorem d14_13 : decode jdk_42_method_152_code 13 = .ok (.iconst 1, 1) := by decide +kernel
theorem d14_14 : decode jdk_42_method_152_code 14 = .ok (.ireturn, 1) := by decide +kernel
theorem pn_14 : plainName "java/lang/String" = true := by first | (simp [plainName, overriddenIn]; done) | decide +kernel
theorem ef_14 (m : MethodId) (x0 : Addr) : entryFrame m #[(.ref x0)] 1 = mkF m 0 #[rv x0] [] := by first | (simp [entryFrame, mkF, argsToLocals, Value.category]; done) | rfl
def Q14 (Z : State) (x : Addr) (d : Addr) (z : Int32) (zc : Int32) (h0 : Heap) (n0 : Nat) (v : Option Value) (h : Heap) (L : List Loc) : Prop := v = some (.int 0) ∧ Fr n0 L ∧ h = h0
set_option maxRecDepth 65536 in
set_option maxHeartbeats 40000000 in
theorem rm14 (l : Launch) (Z : State) (a0 : Array Value) (hw : ∀ d ∈ tables_1, d.before a0 Z = true) (ws : List Jvm.Cond) (x : Addr) (d : Addr) (z : Int32) (zc : Int32) (h0 : Heap) (n0 : Nat) (Z0 : n0 ≤ h0.size) (O0 : Old Z n0 h0) (SC : Sta Z Z.heap "java/lang/String" "COMPACT_STRINGS" "Z" (.int zc)) (hzc : ¬ (zc = (0 : Int32))) (ST : STF Z h0 x d z) :
    MetFree l (⟨"java/lang/String", "coder", "()B"⟩ : MethodName) (head1 (Jvm.Cond.code (⟨"java/lang/String", "coder", "()B"⟩ : MethodName) jdk_42_method_152_code 1 (some .byte) :: ws) ({ frames := 1, cells := 0, slots := 0, locals := 20 } : Room)) (fun a U => a = #[(.ref x)] ∧ Z.Warmed39 U.vm ∧ U.heap = h0) (fun _ _ _ _ _ => True) (fun _ U o U' => ∃ v L, o = .returned v ∧ Q14 Z x d z zc h0 n0 v U'.heap L ∧ FrameEnd U o U' L ({ frames := 1, cells := 0, slots := 0, locals := 20 } : Room).cells ({ frames := 1, cells := 0, slots := 0, locals := 20 } : Room).slots) := by
  refine MetFree.of_bodySF (plainFor_of_name pn_14) hisR ?_
  intro p e s m args below meth c s₁ Bd hml0 hP hK
  obtain ⟨rfl, hZ, hh⟩ := hP
  have hx := Bd.exec
  have hby := Bd.bytes
  have hml : c.maxLocals = 1 := hml0
  have hown : s.vm.findClass "java/lang/String" = some m.cls := findClass_of_methodNamed Bd.named
  have hnm := (name_of_methodNamed Bd.named Bd.method).1
  have X0 : Stand p l e ({ frames := 1, cells := 0, slots := 0, locals := 20 } : Room) s m #[(.ref x)] below meth c s₁ [] 0 0 := Stand.of_body Bd
  have e0 : s₁.heap = h0 := by rw [← hh, Bd.state]; rfl
  have N0 := Fr.nil n0
  show Ends p.tables e below (fun (s₂ : State) (o : Outcome) => ∃ v L, o = .returned v ∧ (Q14 Z x d z zc h0 n0) v s₂.heap L ∧ FrameEnd s o s₂ L ({ frames := 1, cells := 0, slots := 0, locals := 20 } : Room).cells ({ frames := 1, cells := 0, slots := 0, locals := 20 } : Room).slots) (s₁.setTop (entryFrame m #[(.ref x)] 1))
  refine Ends.any fun G hG => ?_
  refine Ends.go (fun t k => castTop (ef_14 m x) k) ?_
  show Ends p.tables e below G (s₁.setTop (mkF m 0 #[rv x] []))
  obtain ⟨Es_x, Fv_x, Fc_x, Bs_x⟩ := ST
  obtain ⟨T1, X1, e1, st1⟩ := getS2 X0 hx hZ hown (host := "") (Or.inl (hw _ (List.mem_of_getElem? (i := 18) rfl))) Via.refl e0 (Sta.ext O0.2 SC) (g := (mkF m 0 #[rv x] [])) rfl (hb hby d14_0)
  refine Ends.go (fun _ => st1 _) ?_
  show Ends p.tables e below G (T1.setTop (mkF m 3 #[rv x] [(.int zc)]))
  refine Ends.go (fun _ => XS.ifNo X1.here hx rfl (hb hby d14_3) rfl ((if0 _ _).trans (feq (hzc : ¬ (zc = (0 : Int32)))).1)) ?_
  show Ends p.tables e below G (T1.setTop (mkF m 6 #[rv x] []))
  refine Ends.go (fun _ => XS.aloadN X1.here hx rfl (hb hby d14_6) rfl rfl) ?_
  show Ends p.tables e below G (T1.setTop (mkF m 7 #[rv x] [(.ref x)]))
  obtain ⟨T2, X2, e2, st2⟩ := getF X1 hx hZ hown (host := "") (Or.inl (hw _ (List.mem_of_getElem? (i := 30) rfl))) Via.refl e1 Fc_x (g := (mkF m 7 #[rv x] [(.ref x)])) rfl rfl (hb hby d14_7)
  refine Ends.go (fun _ => st2 _) ?_
  show Ends p.tables e below G (T2.setTop (mkF m 10 #[rv x] [(.int (0 : Int32))]))
  refine Ends.go (fun _ => XS.goto X2.here hx rfl (pc0 := 10) (pc' := 14) rfl (hb hby d14_10) (by decide) (by decide)) ?_
  show Ends p.tables e below G (T2.setTop (mkF m 14 #[rv x] [(.int (0 : Int32))]))
  refine own_finS (t := .byte) X2 hx Bd.returns (by simp) Bd.notSynchronized (hb hby d14_14) (Q := (Q14 Z x d z zc h0 n0)) hG (by decide) (by decide) ?_
  show (Q14 Z x d z zc h0 n0) _ T2.heap _
  rw [e2]
  exact ⟨rfl, N0, rfl⟩
theorem d13_0 : decode jdk_42_method_54_code 0 = .ok (.aload_n 0, 1) := by decide +kernel
theorem d13_1 : decode jdk_42_method_54_code 1 = .ok (.getfield 9, 3) := by decide +kernel
theorem d13_4 : decode jdk_42_method_54_code 4 = .ok (.arraylength, 1) := by decide +kernel
theorem d13_5 : decode jdk_42_method_54_code 5 = .ok (.aload_n 0, 1) := by decide +kernel
theorem d13_6 : decode jdk_42_method_54_code 6 = .ok (.invokevirtual 335, 3) := by decide +kernel
theorem pd_0 : parseMethodDescriptor "()B" = some ⟨[], some .byte⟩ := by decide +kernel
theorem d13_9 : decode jdk_42_method_54_code 9 = .ok (.ishr, 1) := by decide +kernel
theorem d13_10 : decode jdk_42_method_54_code 10 = .ok (.ireturn, 1) := by decide +kernel
theorem pn_13 : plainName "java/lang/String" = true := by first | (simp [plainName, overriddenIn]; done) | decide +kernel
theorem ef_13 (m : MethodId) (x0 : Addr) : entryFrame m #[(.ref x0)] 1 = mkF m 0 #[rv x0] [] := by first | (simp [entryFrame, mkF, argsToLocals, Value.category]; done) | rfl
def Q13 (Z : State) (x : Addr) (d : Addr) (z : Int32) (zc : Int32) (h0 : Heap) (n0 : Nat) (v : Option Value) (h : Heap) (L : List Loc) : Prop := v = some (.int z) ∧ Fr n0 L ∧ h = h0
set_option maxRecDepth 65536 in
set_option maxHeartbeats 40000000 in
theorem rm13 (l : Launch) (Z : State) (a0 : Array Value) (hw : ∀ d ∈ tables_1, d.before a0 Z = true) (ws : List Jvm.Cond) (x : Addr) (d : Addr) (z : Int32) (zc : Int32) (h0 : Heap) (n0 : Nat) (Z0 : n0 ≤ h0.size) (O0 : Old Z n0 h0) (SC : Sta Z Z.heap "java/lang/String" "COMPACT_STRINGS" "Z" (.int zc)) (hzc : ¬ (zc = (0 : Int32))) (ST : STF Z h0 x d z) :
    MetFree l (⟨"java/lang/String", "length", "()I"⟩ : MethodName) (head1 (Jvm.Cond.code (⟨"java/lang/String", "length", "()I"⟩ : MethodName) jdk_42_method_54_code 1 (some .int) :: ws) ({ frames := 2, cells := 0, slots := 0, locals := 40 } : Room)) (fun a U => a = #[(.ref x)] ∧ Z.Warmed39 U.vm ∧ U.heap = h0) (fun _ _ _ _ _ => True) (fun _ U o U' => ∃ v L, o = .returned v ∧ Q13 Z x d z zc h0 n0 v U'.heap L ∧ FrameEnd U o U' L ({ frames := 2, cells := 0, slots := 0, locals := 40 } : Room).cells ({ frames := 2, cells := 0, slots := 0, locals := 40 } : Room).slots) := by
  refine MetFree.of_bodySF (plainFor_of_name pn_13) hisR ?_
  intro p e s m args below meth c s₁ Bd hml0 hP hK
  obtain ⟨rfl, hZ, hh⟩ := hP
  have hx := Bd.exec
  have hby := Bd.bytes
  have hml : c.maxLocals = 1 := hml0
  have hown : s.vm.findClass "java/lang/String" = some m.cls := findClass_of_methodNamed Bd.named
  have hnm := (name_of_methodNamed Bd.named Bd.method).1
  have X0 : Stand p l e ({ frames := 2, cells := 0, slots := 0, locals := 40 } : Room) s m #[(.ref x)] below meth c s₁ [] 0 0 := Stand.of_body Bd
  have e0 : s₁.heap = h0 := by rw [← hh, Bd.state]; rfl
  have N0 := Fr.nil n0
  show Ends p.tables e below (fun (s₂ : State) (o : Outcome) => ∃ v L, o = .returned v ∧ (Q13 Z x d z zc h0 n0) v s₂.heap L ∧ FrameEnd s o s₂ L ({ frames := 2, cells := 0, slots := 0, locals := 40 } : Room).cells ({ frames := 2, cells := 0, slots := 0, locals := 40 } : Room).slots) (s₁.setTop (entryFrame m #[(.ref x)] 1))
  refine Ends.any fun G hG => ?_
  refine Ends.go (fun t k => castTop (ef_13 m x) k) ?_
  show Ends p.tables e below G (s₁.setTop (mkF m 0 #[rv x] []))
  obtain ⟨Es_x, Fv_x, Fc_x, Bs_x⟩ := ST
  refine Ends.go (fun _ => XS.aloadN X0.here hx rfl (hb hby d13_0) rfl rfl) ?_
  show Ends p.tables e below G (s₁.setTop (mkF m 1 #[rv x] [(.ref x)]))
  obtain ⟨T1, X1, e1, st1⟩ := getF X0 hx hZ hown (host := "") (Or.inl (hw _ (List.mem_of_getElem? (i := 32) rfl))) Via.refl e0 Fv_x (g := (mkF m 1 #[rv x] [(.ref x)])) rfl rfl (hb hby d13_1)
  refine Ends.go (fun _ => st1 _) ?_
  show Ends p.tables e below G (T1.setTop (mkF m 4 #[rv x] [(.ref d)]))
  refine Ends.go (fun _ => BA.len Bs_x X1 hx hZ e1 (g := (mkF m 4 #[rv x] [(.ref d)])) rfl rfl (hb hby d13_4) _) ?_
  show Ends p.tables e below G (T1.setTop (mkF m 5 #[rv x] [(.int z)]))
  refine Ends.go (fun _ => XS.aloadN X1.here hx rfl (hb hby d13_5) rfl rfl) ?_
  show Ends p.tables e below G (T1.setTop (mkF m 6 #[rv x] [(.ref x), (.int z)]))
  obtain ⟨cq2, kq2, q2a, q2b, q2c⟩ := isOf hZ e1 Es_x
  obtain ⟨_, _, ⟨T2, L2, k2, n2⟩, -, X2, ⟨Lc2, hQ2, l2, y2, z2⟩, st2⟩ := X1.virtualBack hx (y := (⟨"java/lang/String", "coder", "()B"⟩ : MethodName)) (z := (⟨"java/lang/String", "coder", "()B"⟩ : MethodName)) hown (mvT hZ (hw _ (List.mem_of_getElem? (i := 76) rfl))) (mvT hZ (hw _ (List.mem_of_getElem? (i := 77) rfl))) (notFace_of_selects (args := #[]) (mvT hZ (hw _ (List.mem_of_getElem? (i := 79) rfl)))) (mvT hZ (hw _ (List.mem_of_getElem? (i := 79) rfl))) (mvT hZ (hw _ (List.mem_of_getElem? (i := 78) rfl))) (by decide) (backOf (W := 1) (rm14 l Z a0 hw [] x d z zc h0 n0 Z0 O0 SC hzc ⟨Es_x, Fv_x, Fc_x, Bs_x⟩) hZ (hw _ (List.mem_of_getElem? (i := 80) rfl)) (hw _ (List.mem_of_getElem? (i := 7) rfl)) (by decide) (by decide)) q2a q2c (g := (mkF m 6 #[rv x] [(.ref x), (.int z)])) rfl (by rw [hml]; rfl) (Steps.refl _) (argsL := []) (rest := [(.int z)]) (lenOf pd_0 rfl) rfl (by show 2 * 0 + _ ≤ _; exact Nat.le_of_eq rfl) (hb hby d13_6) (fun _ _ => ⟨rfl, e1, (by decide : 0 + 0 ≤ _), (by decide : 0 + 0 ≤ _)⟩)
  dsimp only [Pt.U, Pt.locs, Pt.cells, Pt.slots] at X2 l2 y2 z2 st2 hQ2
  subst l2 y2 z2
  obtain ⟨rfl, N2q, e2⟩ := hQ2
  have N2 := Fr.app N0 N2q
  refine Ends.go (fun _ => st2.trans) ?_
  show Ends p.tables e below G (T2.setTop (mkF m 9 #[rv x] [(.int (0 : Int32)), (.int z)]))
  refine Ends.go (fun _ => XS.ishr X2.here hx rfl (hb hby d13_9) rfl) ?_
  show Ends p.tables e below G (T2.setTop (mkF m 10 #[rv x] [(.int (z >>> ((0 : Int32) &&& 31)))]))
  rw [show (z >>> ((0 : Int32) &&& 31)) = z from own_shr0 z]
  show Ends p.tables e below G (T2.setTop (mkF m 10 #[rv x] [(.int z)]))
  refine own_finI X2 hx Bd.returns Bd.notSynchronized (hb hby d13_10) (Q := (Q13 Z x d z zc h0 n0)) hG (by decide) (by decide) ?_
  show (Q13 Z x d z zc h0 n0) _ T2.heap _
  rw [e2]
  exact ⟨rfl, N2, rfl⟩
theorem d27_0 : decode jdk_68_method_68_code 0 = .ok (.getstatic 18, 3) := by decide +kernel
theorem d27_3 : decode jdk_68_method_68_code 3 = .ok (.ifCond .eq 14, 3) := by decide +kernel
theorem d27_6 : decode jdk_68_method_68_code 6 = .ok (.aload_n 0, 1) := by decide +kernel
theorem d27_7 : decode jdk_68_method_68_code 7 = .ok (.getfield 22, 3) := by decide +kernel
theorem d27_10 : decode jdk_68_method_68_code 10 = .ok (.ifCond .ne 7, 3) := by decide +kernel
theorem d27_13 : decode jdk_68_method_68_code 13 = .ok (.iconst 1, 1) := by decide +kernel
theorem d27_14 : decode jdk_68_method_68_code 14 = .ok (.goto 4, 3) := by decide +kernel
theorem d27_17 : decode jdk_68_method_68_code 17 = .ok (.iconst 0, 1) := by decide +kernel
theorem d27_18 : decode jdk_68_method_68_code 18 = .ok (.ireturn, 1) := by decide +kernel
theorem pn_27 : plainName "java/lang/AbstractStringBuilder" = true := by first | (simp [plainName, overriddenIn]; done) | decide +kernel
theorem ef_27 (m : MethodId) (x0 : Addr) : entryFrame m #[(.ref x0)] 1 = mkF m 0 #[rv x0] [] := by first | (simp [entryFrame, mkF, argsToLocals, Value.category]; done) | rfl
def Q27 (Z : State) (b : Addr) (d : Addr) (zA : Int32) (zn : Int32) (zc : Int32) (h0 : Heap) (n0 : Nat) (v : Option Value) (h : Heap) (L : List Loc) : Prop := v = some (.int 1) ∧ Fr n0 L ∧ h = h0
set_option maxRecDepth 65536 in
set_option maxHeartbeats 40000000 in
theorem rm27 (l : Launch) (Z : State) (a0 : Array Value) (hw : ∀ d ∈ tables_1, d.before a0 Z = true) (ws : List Jvm.Cond) (b : Addr) (d : Addr) (zA : Int32) (zn : Int32) (zc : Int32) (h0 : Heap) (n0 : Nat) (Z0 : n0 ≤ h0.size) (O0 : Old Z n0 h0) (SC : Sta Z Z.heap "java/lang/String" "COMPACT_STRINGS" "Z" (.int zc)) (hzc : ¬ (zc = (0 : Int32))) (SB : SBF Z h0 b d zA zn) :
    MetFree l (⟨"java/lang/AbstractStringBuilder", "isLatin1", "()Z"⟩ : MethodName) (head1 (Jvm.Cond.code (⟨"java/lang/AbstractStringBuilder", "isLatin1", "()Z"⟩ : MethodName) jdk_68_method_68_code 1 (some .boolean) :: ws) ({ frames := 1, cells := 0, slots := 0, locals := 20 } : Room)) (fun a U => a = #[(.ref b)] ∧ Z.Warmed39 U.vm ∧ U.heap = h0) (fun _ _ _ _ _ => True) (fun _ U o U' => ∃ v L, o = .returned v ∧ Q27 Z b d zA zn zc h0 n0 v U'.heap L ∧ FrameEnd U o U' L ({ frames := 1, cells := 0, slots := 0, locals := 20 } : Room).cells ({ frames := 1, cells := 0, slots := 0, locals := 20 } : Room).slots) := by
  refine MetFree.of_bodySF (plainFor_of_name pn_27) hisR ?_
  intro p e s m args below meth c s₁ Bd hml0 hP hK
  obtain ⟨rfl, hZ, hh⟩ := hP
  have hx := Bd.exec
  have hby := Bd.bytes
  have hml : c.maxLocals = 1 := hml0
  have hown : s.vm.findClass "java/lang/AbstractStringBuilder" = some m.cls := findClass_of_methodNamed Bd.named
  have hnm := (name_of_methodNamed Bd.named Bd.method).1
  have X0 : Stand p l e ({ frames := 1, cells := 0, slots := 0, locals := 20 } : Room) s m #[(.ref b)] below meth c s₁ [] 0 0 := Stand.of_body Bd
  have e0 : s₁.heap = h0 := by rw [← hh, Bd.state]; rfl
  have N0 := Fr.nil n0
  show Ends p.tables e below (fun (s₂ : State) (o : Outcome) => ∃ v L, o = .returned v ∧ (Q27 Z b d zA zn zc h0 n0) v s₂.heap L ∧ FrameEnd s o s₂ L ({ frames := 1, cells := 0, slots := 0, locals := 20 } : Room).cells ({ frames := 1, cells := 0, slots := 0, locals := 20 } : Room).slots) (s₁.setTop (entryFrame m #[(.ref b)] 1))
  refine Ends.any fun G hG => ?_
  refine Ends.go (fun t k => castTop (ef_27 m b) k) ?_
  show Ends p.tables e below G (s₁.setTop (mkF m 0 #[rv b] []))
  obtain ⟨Eb_b, Fv_b, Fc_b, Fn_b, Ba_b, Ea_b⟩ := SB
  have ne_b_d : b ≠ d := Exa.ne Eb_b Ea_b (by decide)
  obtain ⟨T1, X1, e1, st1⟩ := getS2 X0 hx hZ hown (host := "") (Or.inl (hw _ (List.mem_of_getElem? (i := 53) rfl))) Via.refl e0 (Sta.ext O0.2 SC) (g := (mkF m 0 #[rv b] [])) rfl (hb hby d27_0)
  refine Ends.go (fun _ => st1 _) ?_
  show Ends p.tables e below G (T1.setTop (mkF m 3 #[rv b] [(.int zc)]))
  refine Ends.go (fun _ => XS.ifNo X1.here hx rfl (hb hby d27_3) rfl ((if0 _ _).trans (feq (hzc : ¬ (zc = (0 : Int32)))).1)) ?_
  show Ends p.tables e below G (T1.setTop (mkF m 6 #[rv b] []))
  refine Ends.go (fun _ => XS.aloadN X1.here hx rfl (hb hby d27_6) rfl rfl) ?_
  show Ends p.tables e below G (T1.setTop (mkF m 7 #[rv b] [(.ref b)]))
  obtain ⟨T2, X2, e2, st2⟩ := getF X1 hx hZ hown (host := "") (Or.inl (hw _ (List.mem_of_getElem? (i := 56) rfl))) Via.refl e1 Fc_b (g := (mkF m 7 #[rv b] [(.ref b)])) rfl rfl (hb hby d27_7)
  refine Ends.go (fun _ => st2 _) ?_
  show Ends p.tables e below G (T2.setTop (mkF m 10 #[rv b] [(.int (0 : Int32))]))
  refine Ends.go (fun _ => XS.ifNo X2.here hx rfl (hb hby d27_10) rfl ((if0 _ _).trans (teq (rfl : (0 : Int32) = (0 : Int32))).2)) ?_
  show Ends p.tables e below G (T2.setTop (mkF m 13 #[rv b] []))
  refine Ends.go (fun _ => XS.iconst X2.here hx rfl (hb hby d27_13)) ?_
  show Ends p.tables e below G (T2.setTop (mkF m 14 #[rv b] [(.int (1 : Int32))]))
  refine Ends.go (fun _ => XS.goto X2.here hx rfl (pc0 := 14) (pc' := 18) rfl (hb hby d27_14) (by decide) (by decide)) ?_
  show Ends p.tables e below G (T2.setTop (mkF m 18 #[rv b] [(.int (1 : Int32))]))
  refine own_finS (t := .boolean) X2 hx Bd.returns (by simp) Bd.notSynchronized (hb hby d27_18) (Q := (Q27 Z b d zA zn zc h0 n0)) hG (by decide) (by decide) ?_
  show (Q27 Z b d zA zn zc h0 n0) _ T2.heap _
  rw [e2]
  exact ⟨rfl, N0, rfl⟩
theorem d32_0 : decode jdk_68_method_64_code 0 = .ok (.aload_n 0, 1) := by decide +kernel
theorem d32_1 : decode jdk_68_method_64_code 1 = .ok (.getfield 15, 3) := by decide +kernel
theorem d32_4 : decode jdk_68_method_64_code 4 = .ok (.areturn, 1) := by decide +kernel
theorem pn_32 : plainName "java/lang/AbstractStringBuilder" = true := by first | (simp [plainName, overriddenIn]; done) | decide +kernel
theorem ef_32 (m : MethodId) (x0 : Addr) : entryFrame m #[(.ref x0)] 1 = mkF m 0 #[rv x0] [] := by first | (simp [entryFrame, mkF, argsToLocals, Value.category]; done) | rfl
def Q32 (Z : State) (b : Addr) (d : Addr) (zA : Int32) (zn : Int32) (zc : Int32) (h0 : Heap) (n0 : Nat) (v : Option Value) (h : Heap) (L : List Loc) : Prop := v = some (.ref d) ∧ Fr n0 L ∧ h = h0
set_option maxRecDepth 65536 in
set_option maxHeartbeats 40000000 in
theorem rm32 (l : Launch) (Z : State) (a0 : Array Value) (hw : ∀ d ∈ tables_1, d.before a0 Z = true) (ws : List Jvm.Cond) (b : Addr) (d : Addr) (zA : Int32) (zn : Int32) (zc : Int32) (h0 : Heap) (n0 : Nat) (Z0 : n0 ≤ h0.size) (O0 : Old Z n0 h0) (SC : Sta Z Z.heap "java/lang/String" "COMPACT_STRINGS" "Z" (.int zc)) (hzc : ¬ (zc = (0 : Int32))) (SB : SBF Z h0 b d zA zn) :
    MetFree l (⟨"java/lang/AbstractStringBuilder", "getValue", "()[B"⟩ : MethodName) (head1 (Jvm.Cond.code (⟨"java/lang/AbstractStringBuilder", "getValue", "()[B"⟩ : MethodName) jdk_68_method_64_code 1 (some (.array .byte)) :: ws) ({ frames := 1, cells := 0, slots := 0, locals := 20 } : Room)) (fun a U => a = #[(.ref b)] ∧ Z.Warmed39 U.vm ∧ U.heap = h0) (fun _ _ _ _ _ => True) (fun _ U o U' => ∃ v L, o = .returned v ∧ Q32 Z b d zA zn zc h0 n0 v U'.heap L ∧ FrameEnd U o U' L ({ frames := 1, cells := 0, slots := 0, locals := 20 } : Room).cells ({ frames := 1, cells := 0, slots := 0, locals := 20 } : Room).slots) := by
  refine MetFree.of_bodySF (plainFor_of_name pn_32) hisR ?_
  intro p e s m args below meth c s₁ Bd hml0 hP hK
  obtain ⟨rfl, hZ, hh⟩ := hP
  have hx := Bd.exec
  have hby := Bd.bytes
  have hml : c.maxLocals = 1 := hml0
  have hown : s.vm.findClass "java/lang/AbstractStringBuilder" = some m.cls := findClass_of_methodNamed Bd.named
  have hnm := (name_of_methodNamed Bd.named Bd.method).1
  have X0 : Stand p l e ({ frames := 1, cells := 0, slots := 0, locals := 20 } : Room) s m #[(.ref b)] below meth c s₁ [] 0 0 := Stand.of_body Bd
  have e0 : s₁.heap = h0 := by rw [← hh, Bd.state]; rfl
  have N0 := Fr.nil n0
  show Ends p.tables e below (fun (s₂ : State) (o : Outcome) => ∃ v L, o = .returned v ∧ (Q32 Z b d zA zn zc h0 n0) v s₂.heap L ∧ FrameEnd s o s₂ L ({ frames := 1, cells := 0, slots := 0, locals := 20 } : Room).cells ({ frames := 1, cells := 0, slots := 0, locals := 20 } : Room).slots) (s₁.setTop (entryFrame m #[(.ref b)] 1))
  refine Ends.any fun G hG => ?_
  refine Ends.go (fun t k => castTop (ef_32 m b) k) ?_
  show Ends p.tables e below G (s₁.setTop (mkF m 0 #[rv b] []))
  obtain ⟨Eb_b, Fv_b, Fc_b, Fn_b, Ba_b, Ea_b⟩ := SB
  have ne_b_d : b ≠ d := Exa.ne Eb_b Ea_b (by decide)
  refine Ends.go (fun _ => XS.aloadN X0.here hx rfl (hb hby d32_0) rfl rfl) ?_
  show Ends p.tables e below G (s₁.setTop (mkF m 1 #[rv b] [(.ref b)]))
  obtain ⟨T1, X1, e1, st1⟩ := getF X0 hx hZ hown (host := "") (Or.inl (hw _ (List.mem_of_getElem? (i := 54) rfl))) Via.refl e0 Fv_b (g := (mkF m 1 #[rv b] [(.ref b)])) rfl rfl (hb hby d32_1)
  refine Ends.go (fun _ => st1 _) ?_
  show Ends p.tables e below G (T1.setTop (mkF m 4 #[rv b] [(.ref d)]))
  refine own_finR X1 hx Bd.returns rfl Bd.notSynchronized (hb hby d32_4) (Q := (Q32 Z b d zA zn zc h0 n0)) hG (by decide) (by decide) ?_
  show (Q32 Z b d zA zn zc h0 n0) _ T1.heap _
  rw [e1]
  exact ⟨rfl, N0, rfl⟩
theorem d34_0 : decode jdk_68_method_6_code 0 = .ok (.aload_n 0, 1) := by decide +kernel
theorem d34_1 : decode jdk_68_method_6_code 1 = .ok (.getfield 79, 3) := by decide +kernel
theorem d34_4 : decode jdk_68_method_6_code 4 = .ok (.ireturn, 1) := by decide +kernel
theorem pn_34 : plainName "java/lang/AbstractStringBuilder" = true := by first | (simp [plainName, overriddenIn]; done) | decide +kernel
theorem ef_34 (m : MethodId) (x0 : Addr) : entryFrame m #[(.ref x0)] 1 = mkF m 0 #[rv x0] [] := by first | (simp [entryFrame, mkF, argsToLocals, Value.category]; done) | rfl
def Q34 (Z : State) (b : Addr) (d : Addr) (zA : Int32) (zn : Int32) (zc : Int32) (h0 : Heap) (n0 : Nat) (v : Option Value) (h : Heap) (L : List Loc) : Prop := v = some (.int zn) ∧ Fr n0 L ∧ h = h0
set_option maxRecDepth 65536 in
set_option maxHeartbeats 40000000 in
theorem rm34 (l : Launch) (Z : State) (a0 : Array Value) (hw : ∀ d ∈ tables_1, d.before a0 Z = true) (ws : List Jvm.Cond) (b : Addr) (d : Addr) (zA : Int32) (zn : Int32) (zc : Int32) (h0 : Heap) (n0 : Nat) (Z0 : n0 ≤ h0.size) (O0 : Old Z n0 h0) (SC : Sta Z Z.heap "java/lang/String" "COMPACT_STRINGS" "Z" (.int zc)) (hzc : ¬ (zc = (0 : Int32))) (SB : SBF Z h0 b d zA zn) :
    MetFree l (⟨"java/lang/AbstractStringBuilder", "length", "()I"⟩ : MethodName) (head1 (Jvm.Cond.code (⟨"java/lang/AbstractStringBuilder", "length", "()I"⟩ : MethodName) jdk_68_method_6_code 1 (some .int) :: ws) ({ frames := 1, cells := 0, slots := 0, locals := 20 } : Room)) (fun a U => a = #[(.ref b)] ∧ Z.Warmed39 U.vm ∧ U.heap = h0) (fun _ _ _ _ _ => True) (fun _ U o U' => ∃ v L, o = .returned v ∧ Q34 Z b d zA zn zc h0 n0 v U'.heap L ∧ FrameEnd U o U' L ({ frames := 1, cells := 0, slots := 0, locals := 20 } : Room).cells ({ frames := 1, cells := 0, slots := 0, locals := 20 } : Room).slots) := by
  refine MetFree.of_bodySF (plainFor_of_name pn_34) hisR ?_
  intro p e s m args below meth c s₁ Bd hml0 hP hK
  obtain ⟨rfl, hZ, hh⟩ := hP
  have hx := Bd.exec
  have hby := Bd.bytes
  have hml : c.maxLocals = 1 := hml0
  have hown : s.vm.findClass "java/lang/AbstractStringBuilder" = some m.cls := findClass_of_methodNamed Bd.named
  have hnm := (name_of_methodNamed Bd.named Bd.method).1
  have X0 : Stand p l e ({ frames := 1, cells := 0, slots := 0, locals := 20 } : Room) s m #[(.ref b)] below meth c s₁ [] 0 0 := Stand.of_body Bd
  have e0 : s₁.heap = h0 := by rw [← hh, Bd.state]; rfl
  have N0 := Fr.nil n0
  show Ends p.tables e below (fun (s₂ : State) (o : Outcome) => ∃ v L, o = .returned v ∧ (Q34 Z b d zA zn zc h0 n0) v s₂.heap L ∧ FrameEnd s o s₂ L ({ frames := 1, cells := 0, slots := 0, locals := 20 } : Room).cells ({ frames := 1, cells := 0, slots := 0, locals := 20 } : Room).slots) (s₁.setTop (entryFrame m #[(.ref b)] 1))
  refine Ends.any fun G hG => ?_
  refine Ends.go (fun t k => castTop (ef_34 m b) k) ?_
  show Ends p.tables e below G (s₁.setTop (mkF m 0 #[rv b] []))
  obtain ⟨Eb_b, Fv_b, Fc_b, Fn_b, Ba_b, Ea_b⟩ := SB
  have ne_b_d : b ≠ d := Exa.ne Eb_b Ea_b (by decide)
  refine Ends.go (fun _ => XS.aloadN X0.here hx rfl (hb hby d34_0) rfl rfl) ?_
  show Ends p.tables e below G (s₁.setTop (mkF m 1 #[rv b] [(.ref b)]))
  obtain ⟨T1, X1, e1, st1⟩ := getF X0 hx hZ hown (host := "") (Or.inl (hw _ (List.mem_of_getElem? (i := 81) rfl))) Via.refl e0 Fn_b (g := (mkF m 1 #[rv b] [(.ref b)])) rfl rfl (hb hby d34_1)
  refine Ends.go (fun _ => st1 _) ?_
  show Ends p.tables e below G (T1.setTop (mkF m 4 #[rv b] [(.int zn)]))
  refine own_finI X1 hx Bd.returns Bd.notSynchronized (hb hby d34_4) (Q := (Q34 Z b d zA zn zc h0 n0)) hG (by decide) (by decide) ?_
  show (Q34 Z b d zA zn zc h0 n0) _ T1.heap _
  rw [e1]
  exact ⟨rfl, N0, rfl⟩
theorem d33_0 : decode jdk_67_method_93_code 0 = .ok (.aload_n 0, 1) := by decide +kernel
theorem d33_1 : decode jdk_67_method_93_code 1 = .ok (.invokespecial 343, 3) := by decide +kernel
theorem pd_1 : parseMethodDescriptor "()I" = some ⟨[], some .int⟩ := by decide +kernel
theorem d33_4 : decode jdk_67_method_93_code 4 = .ok (.ireturn, 1) := by decide +kernel
theorem pn_33 : plainName "java/lang/StringBuilder" = true := by first | (simp [plainName, overriddenIn]; done) | decide +kernel
theorem ef_33 (m : MethodId) (x0 : Addr) : entryFrame m #[(.ref x0)] 1 = mkF m 0 #[rv x0] [] := by first | (simp [entryFrame, mkF, argsToLocals, Value.category]; done) | rfl
def Q33 (Z : State) (b : Addr) (d : Addr) (zA : Int32) (zn : Int32) (zc : Int32) (h0 : Heap) (n0 : Nat) (v : Option Value) (h : Heap) (L : List Loc) : Prop := v = some (.int zn) ∧ Fr n0 L ∧ h = h0
set_option maxRecDepth 65536 in
set_option maxHeartbeats 40000000 in
theorem rm33 (l : Launch) (Z : State) (a0 : Array Value) (hw : ∀ d ∈ tables_1, d.before a0 Z = true) (ws : List Jvm.Cond) (b : Addr) (d : Addr) (zA : Int32) (zn : Int32) (zc : Int32) (h0 : Heap) (n0 : Nat) (Z0 : n0 ≤ h0.size) (O0 : Old Z n0 h0) (SC : Sta Z Z.heap "java/lang/String" "COMPACT_STRINGS" "Z" (.int zc)) (hzc : ¬ (zc = (0 : Int32))) (SB : SBF Z h0 b d zA zn) :
    MetFree l (⟨"java/lang/StringBuilder", "length", "()I"⟩ : MethodName) (head1 (Jvm.Cond.code (⟨"java/lang/StringBuilder", "length", "()I"⟩ : MethodName) jdk_67_method_93_code 1 (some .int) :: ws) ({ frames := 2, cells := 0, slots := 0, locals := 40 } : Room)) (fun a U => a = #[(.ref b)] ∧ Z.Warmed39 U.vm ∧ U.heap = h0) (fun _ _ _ _ _ => True) (fun _ U o U' => ∃ v L, o = .returned v ∧ Q33 Z b d zA zn zc h0 n0 v U'.heap L ∧ FrameEnd U o U' L ({ frames := 2, cells := 0, slots := 0, locals := 40 } : Room).cells ({ frames := 2, cells := 0, slots := 0, locals := 40 } : Room).slots) := by
  refine MetFree.of_bodySF (plainFor_of_name pn_33) hisR ?_
  intro p e s m args below meth c s₁ Bd hml0 hP hK
  obtain ⟨rfl, hZ, hh⟩ := hP
  have hx := Bd.exec
  have hby := Bd.bytes
  have hml : c.maxLocals = 1 := hml0
  have hown : s.vm.findClass "java/lang/StringBuilder" = some m.cls := findClass_of_methodNamed Bd.named
  have hnm := (name_of_methodNamed Bd.named Bd.method).1
  have X0 : Stand p l e ({ frames := 2, cells := 0, slots := 0, locals := 40 } : Room) s m #[(.ref b)] below meth c s₁ [] 0 0 := Stand.of_body Bd
  have e0 : s₁.heap = h0 := by rw [← hh, Bd.state]; rfl
  have N0 := Fr.nil n0
  show Ends p.tables e below (fun (s₂ : State) (o : Outcome) => ∃ v L, o = .returned v ∧ (Q33 Z b d zA zn zc h0 n0) v s₂.heap L ∧ FrameEnd s o s₂ L ({ frames := 2, cells := 0, slots := 0, locals := 40 } : Room).cells ({ frames := 2, cells := 0, slots := 0, locals := 40 } : Room).slots) (s₁.setTop (entryFrame m #[(.ref b)] 1))
  refine Ends.any fun G hG => ?_
  refine Ends.go (fun t k => castTop (ef_33 m b) k) ?_
  show Ends p.tables e below G (s₁.setTop (mkF m 0 #[rv b] []))
  obtain ⟨Eb_b, Fv_b, Fc_b, Fn_b, Ba_b, Ea_b⟩ := SB
  have ne_b_d : b ≠ d := Exa.ne Eb_b Ea_b (by decide)
  refine Ends.go (fun _ => XS.aloadN X0.here hx rfl (hb hby d33_0) rfl rfl) ?_
  show Ends p.tables e below G (s₁.setTop (mkF m 1 #[rv b] [(.ref b)]))
  obtain ⟨_, _, ⟨T1, L1, k1, n1⟩, -, X1, ⟨Lc1, hQ1, l1, y1, z1⟩, st1⟩ := superBack X0 hx hZ (y := (⟨"java/lang/AbstractStringBuilder", "length", "()I"⟩ : MethodName)) hown (hw _ (List.mem_of_getElem? (i := 180) rfl)) (own_same (y := (⟨"java/lang/AbstractStringBuilder", "length", "()I"⟩ : MethodName)) (y2 := (⟨"java/lang/AbstractStringBuilder", "ensureCapacityInternal", "(I)V"⟩ : MethodName)) rfl (hw _ (List.mem_of_getElem? (i := 86) rfl)) (hw _ (List.mem_of_getElem? (i := 176) rfl)) (by decide)) (hw _ (List.mem_of_getElem? (i := 176) rfl)) (hw _ (List.mem_of_getElem? (i := 68) rfl)) (by decide) (backOf (W := 0) (rm34 l Z a0 hw [] b d zA zn zc h0 n0 Z0 O0 SC hzc ⟨Eb_b, Fv_b, Fc_b, Fn_b, Ba_b, Ea_b⟩) hZ (hw _ (List.mem_of_getElem? (i := 181) rfl)) (hw _ (List.mem_of_getElem? (i := 50) rfl)) (by decide) (by decide)) e0 (Ins.self Eb_b) (g := (mkF m 1 #[rv b] [(.ref b)])) rfl (by rw [hml]; rfl) (hw _ (List.mem_of_getElem? (i := 181) rfl)) (argsL := []) (rest := []) (lenOf pd_1 rfl) rfl (by show 2 * 0 + _ ≤ _; exact Nat.le_of_eq rfl) (hb hby d33_1) (fun _ _ => ⟨rfl, e0, (by decide : 0 + 0 ≤ _), (by decide : 0 + 0 ≤ _)⟩)
  dsimp only [Pt.U, Pt.locs, Pt.cells, Pt.slots] at X1 l1 y1 z1 st1 hQ1
  subst l1 y1 z1
  obtain ⟨rfl, N1q, e1⟩ := hQ1
  have N1 := Fr.app N0 N1q
  refine Ends.go (fun _ => st1.trans) ?_
  show Ends p.tables e below G (T1.setTop (mkF m 4 #[rv b] [(.int zn)]))
  refine own_finI X1 hx Bd.returns Bd.notSynchronized (hb hby d33_4) (Q := (Q33 Z b d zA zn zc h0 n0)) hG (by decide) (by decide) ?_
  show (Q33 Z b d zA zn zc h0 n0) _ T1.heap _
  rw [e1]
  exact ⟨rfl, N1, rfl⟩
theorem d18_0 : decode jdk_29_method_65_code 0 = .ok (.iload_n 0, 1) := by decide +kernel
theorem d18_1 : decode jdk_29_method_65_code 1 = .ok (.iload_n 1, 1) := by decide +kernel
theorem d18_2 : decode jdk_29_method_65_code 2 = .ok (.if_icmp .lt 7, 3) := by decide +kernel
theorem d18_5 : decode jdk_29_method_65_code 5 = .ok (.iload_n 0, 1) := by decide +kernel
theorem d18_6 : decode jdk_29_method_65_code 6 = .ok (.goto 4, 3) := by decide +kernel
theorem d18_9 : decode jdk_29_method_65_code 9 = .ok (.iload_n 1, 1) := by decide +kernel
theorem d18_10 : decode jdk_29_method_65_code 10 = .ok (.ireturn, 1) := by decide +kernel
theorem ef_18 (m : MethodId) (x0 : Int32) (x1 : Int32) : entryFrame m #[(.int x0), (.int x1)] 2 = mkF m 0 #[iv x0, iv x1] [] := by first | (simp [entryFrame, mkF, argsToLocals, Value.category]; done) | rfl
def Q18 (Z : State) (za : Int32) (zb : Int32) (h0 : Heap) (n0 : Nat) (v : Option Value) (h : Heap) (L : List Loc) : Prop := ∃ r, v = some (.int r) ∧ Fr n0 L ∧ h = h0 ∧ ((r = za ∧ ¬ za < zb) ∨ (r = zb ∧ za < zb))
set_option maxRecDepth 65536 in
set_option maxHeartbeats 40000000 in
theorem rm18 (l : Launch) (Z : State) (a0 : Array Value) (hw : ∀ d ∈ tables_1, d.before a0 Z = true) (ws : List Jvm.Cond) (za : Int32) (zb : Int32) (h0 : Heap) (n0 : Nat) (Z0 : n0 ≤ h0.size) :
    MetFree l (⟨"java/lang/Math", "max", "(II)I"⟩ : MethodName) (head1 (Jvm.Cond.code (⟨"java/lang/Math", "max", "(II)I"⟩ : MethodName) jdk_29_method_65_code 2 (some .int) :: ws) ({ frames := 1, cells := 0, slots := 0, locals := 20 } : Room)) (fun a U => a = #[(.int za), (.int zb)] ∧ Z.Warmed39 U.vm ∧ U.heap = h0) (fun _ _ _ _ _ => True) (fun _ U o U' => ∃ v L, o = .returned v ∧ Q18 Z za zb h0 n0 v U'.heap L ∧ FrameEnd U o U' L ({ frames := 1, cells := 0, slots := 0, locals := 20 } : Room).cells ({ frames := 1, cells := 0, slots := 0, locals := 20 } : Room).slots) := by
  refine MetFree.of_bodySF (Jvm.Free.JP.mathPlain rfl (by decide +kernel)) hisR ?_
  intro p e s m args below meth c s₁ Bd hml0 hP hK
  obtain ⟨rfl, hZ, hh⟩ := hP
  have hx := Bd.exec
  have hby := Bd.bytes
  have hml : c.maxLocals = 2 := hml0
  have hown : s.vm.findClass "java/lang/Math" = some m.cls := findClass_of_methodNamed Bd.named
  have hnm := (name_of_methodNamed Bd.named Bd.method).1
  have X0 : Stand p l e ({ frames := 1, cells := 0, slots := 0, locals := 20 } : Room) s m #[(.int za), (.int zb)] below meth c s₁ [] 0 0 := Stand.of_body Bd
  have e0 : s₁.heap = h0 := by rw [← hh, Bd.state]; rfl
  have N0 := Fr.nil n0
  show Ends p.tables e below (fun (s₂ : State) (o : Outcome) => ∃ v L, o = .returned v ∧ (Q18 Z za zb h0 n0) v s₂.heap L ∧ FrameEnd s o s₂ L ({ frames := 1, cells := 0, slots := 0, locals := 20 } : Room).cells ({ frames := 1, cells := 0, slots := 0, locals := 20 } : Room).slots) (s₁.setTop (entryFrame m #[(.int za), (.int zb)] 2))
  refine Ends.any fun G hG => ?_
  refine Ends.go (fun t k => castTop (ef_18 m za zb) k) ?_
  show Ends p.tables e below G (s₁.setTop (mkF m 0 #[iv za, iv zb] []))
  refine Ends.go (fun _ => XS.iloadN X0.here hx rfl (hb hby d18_0) rfl) ?_
  show Ends p.tables e below G (s₁.setTop (mkF m 1 #[iv za, iv zb] [(.int za)]))
  refine Ends.go (fun _ => XS.iloadN X0.here hx rfl (hb hby d18_1) rfl) ?_
  show Ends p.tables e below G (s₁.setTop (mkF m 2 #[iv za, iv zb] [(.int zb), (.int za)]))
  by_cases hlt : za < zb
  · refine Ends.go (fun _ => XS.icmpYes X0.here hx rfl (pc0 := 2) (pc' := 9) rfl (hb hby d18_2) rfl (tlt (hlt : za < zb)).1 (by decide) (by decide)) ?_
    show Ends p.tables e below G (s₁.setTop (mkF m 9 #[iv za, iv zb] []))
    refine Ends.go (fun _ => XS.iloadN X0.here hx rfl (hb hby d18_9) rfl) ?_
    show Ends p.tables e below G (s₁.setTop (mkF m 10 #[iv za, iv zb] [(.int zb)]))
    refine own_finI X0 hx Bd.returns Bd.notSynchronized (hb hby d18_10) (Q := (Q18 Z za zb h0 n0)) hG (by decide) (by decide) ?_
    show (Q18 Z za zb h0 n0) _ s₁.heap _
    rw [e0]
    exact ⟨_, rfl, N0, rfl, Or.inr ⟨rfl, hlt⟩⟩
  · refine Ends.go (fun _ => XS.icmpNo X0.here hx rfl (hb hby d18_2) rfl (flt (hlt : ¬ (za < zb))).1) ?_
    show Ends p.tables e below G (s₁.setTop (mkF m 5 #[iv za, iv zb] []))
    refine Ends.go (fun _ => XS.iloadN X0.here hx rfl (hb hby d18_5) rfl) ?_
    show Ends p.tables e below G (s₁.setTop (mkF m 6 #[iv za, iv zb] [(.int za)]))
    refine Ends.go (fun _ => XS.goto X0.here hx rfl (pc0 := 6) (pc' := 10) rfl (hb hby d18_6) (by decide) (by decide)) ?_
    show Ends p.tables e below G (s₁.setTop (mkF m 10 #[iv za, iv zb] [(.int za)]))
    refine own_finI X0 hx Bd.returns Bd.notSynchronized (hb hby d18_10) (Q := (Q18 Z za zb h0 n0)) hG (by decide) (by decide) ?_
    show (Q18 Z za zb h0 n0) _ s₁.heap _
    rw [e0]
    exact ⟨_, rfl, N0, rfl, Or.inl ⟨rfl, hlt⟩⟩
theorem d20_0 : decode jdk_29_method_69_code 0 = .ok (.iload_n 0, 1) := by decide +kernel
theorem d20_1 : decode jdk_29_method_69_code 1 = .ok (.iload_n 1, 1) := by decide +kernel
theorem d20_2 : decode jdk_29_method_69_code 2 = .ok (.if_icmp .gt 7, 3) := by decide +kernel
theorem d20_5 : decode jdk_29_method_69_code 5 = .ok (.iload_n 0, 1) := by decide +kernel
theorem d20_6 : decode jdk_29_method_69_code 6 = .ok (.goto 4, 3) := by decide +kernel
theorem d20_9 : decode jdk_29_method_69_code 9 = .ok (.iload_n 1, 1) := by decide +kernel
theorem d20_10 : decode jdk_29_method_69_code 10 = .ok (.ireturn, 1) := by decide +kernel
theorem ef_20 (m : MethodId) (x0 : Int32) (x1 : Int32) : entryFrame m #[(.int x0), (.int x1)] 2 = mkF m 0 #[iv x0, iv x1] [] := by first | (simp [entryFrame, mkF, argsToLocals, Value.category]; done) | rfl
def Q20 (Z : State) (za : Int32) (zb : Int32) (h0 : Heap) (n0 : Nat) (v : Option Value) (h : Heap) (L : List Loc) : Prop := ∃ r, v = some (.int r) ∧ Fr n0 L ∧ h = h0 ∧ ((r = za ∧ ¬ zb < za) ∨ (r = zb ∧ zb < za))
set_option maxRecDepth 65536 in
set_option maxHeartbeats 40000000 in
theorem rm20 (l : Launch) (Z : State) (a0 : Array Value) (hw : ∀ d ∈ tables_1, d.before a0 Z = true) (ws : List Jvm.Cond) (za : Int32) (zb : Int32) (h0 : Heap) (n0 : Nat) (Z0 : n0 ≤ h0.size) :
    MetFree l (⟨"java/lang/Math", "min", "(II)I"⟩ : MethodName) (head1 (Jvm.Cond.code (⟨"java/lang/Math", "min", "(II)I"⟩ : MethodName) jdk_29_method_69_code 2 (some .int) :: ws) ({ frames := 1, cells := 0, slots := 0, locals := 20 } : Room)) (fun a U => a = #[(.int za), (.int zb)] ∧ Z.Warmed39 U.vm ∧ U.heap = h0) (fun _ _ _ _ _ => True) (fun _ U o U' => ∃ v L, o = .returned v ∧ Q20 Z za zb h0 n0 v U'.heap L ∧ FrameEnd U o U' L ({ frames := 1, cells := 0, slots := 0, locals := 20 } : Room).cells ({ frames := 1, cells := 0, slots := 0, locals := 20 } : Room).slots) := by
  refine MetFree.of_bodySF (Jvm.Free.JP.mathPlain rfl (by decide +kernel)) hisR ?_
  intro p e s m args below meth c s₁ Bd hml0 hP hK
  obtain ⟨rfl, hZ, hh⟩ := hP
  have hx := Bd.exec
  have hby := Bd.bytes
  have hml : c.maxLocals = 2 := hml0
  have hown : s.vm.findClass "java/lang/Math" = some m.cls := findClass_of_methodNamed Bd.named
  have hnm := (name_of_methodNamed Bd.named Bd.method).1
  have X0 : Stand p l e ({ frames := 1, cells := 0, slots := 0, locals := 20 } : Room) s m #[(.int za), (.int zb)] below meth c s₁ [] 0 0 := Stand.of_body Bd
  have e0 : s₁.heap = h0 := by rw [← hh, Bd.state]; rfl
  have N0 := Fr.nil n0
  show Ends p.tables e below (fun (s₂ : State) (o : Outcome) => ∃ v L, o = .returned v ∧ (Q20 Z za zb h0 n0) v s₂.heap L ∧ FrameEnd s o s₂ L ({ frames := 1, cells := 0, slots := 0, locals := 20 } : Room).cells ({ frames := 1, cells := 0, slots := 0, locals := 20 } : Room).slots) (s₁.setTop (entryFrame m #[(.int za), (.int zb)] 2))
  refine Ends.any fun G hG => ?_
  refine Ends.go (fun t k => castTop (ef_20 m za zb) k) ?_
  show Ends p.tables e below G (s₁.setTop (mkF m 0 #[iv za, iv zb] []))
  refine Ends.go (fun _ => XS.iloadN X0.here hx rfl (hb hby d20_0) rfl) ?_
  show Ends p.tables e below G (s₁.setTop (mkF m 1 #[iv za, iv zb] [(.int za)]))
  refine Ends.go (fun _ => XS.iloadN X0.here hx rfl (hb hby d20_1) rfl) ?_
  show Ends p.tables e below G (s₁.setTop (mkF m 2 #[iv za, iv zb] [(.int zb), (.int za)]))
  by_cases hlt : zb < za
  · refine Ends.go (fun _ => XS.icmpYes X0.here hx rfl (pc0 := 2) (pc' := 9) rfl (hb hby d20_2) rfl (tlt (hlt : zb < za)).2.2.1 (by decide) (by decide)) ?_
    show Ends p.tables e below G (s₁.setTop (mkF m 9 #[iv za, iv zb] []))
    refine Ends.go (fun _ => XS.iloadN X0.here hx rfl (hb hby d20_9) rfl) ?_
    show Ends p.tables e below G (s₁.setTop (mkF m 10 #[iv za, iv zb] [(.int zb)]))
    refine own_finI X0 hx Bd.returns Bd.notSynchronized (hb hby d20_10) (Q := (Q20 Z za zb h0 n0)) hG (by decide) (by decide) ?_
    show (Q20 Z za zb h0 n0) _ s₁.heap _
    rw [e0]
    exact ⟨_, rfl, N0, rfl, Or.inr ⟨rfl, hlt⟩⟩
  · refine Ends.go (fun _ => XS.icmpNo X0.here hx rfl (hb hby d20_2) rfl (flt (hlt : ¬ (zb < za))).2.2.1) ?_
    show Ends p.tables e below G (s₁.setTop (mkF m 5 #[iv za, iv zb] []))
    refine Ends.go (fun _ => XS.iloadN X0.here hx rfl (hb hby d20_5) rfl) ?_
    show Ends p.tables e below G (s₁.setTop (mkF m 6 #[iv za, iv zb] [(.int za)]))
    refine Ends.go (fun _ => XS.goto X0.here hx rfl (pc0 := 6) (pc' := 10) rfl (hb hby d20_6) (by decide) (by decide)) ?_
    show Ends p.tables e below G (s₁.setTop (mkF m 10 #[iv za, iv zb] [(.int za)]))
    refine own_finI X0 hx Bd.returns Bd.notSynchronized (hb hby d20_10) (Q := (Q20 Z za zb h0 n0)) hG (by decide) (by decide) ?_
    show (Q20 Z za zb h0 n0) _ s₁.heap _
    rw [e0]
    exact ⟨_, rfl, N0, rfl, Or.inl ⟨rfl, hlt⟩⟩
theorem d17_0 : decode jdk_48_method_27_code 0 = .ok (.iload_n 0, 1) := by decide +kernel
theorem d17_1 : decode jdk_48_method_27_code 1 = .ok (.iload_n 1, 1) := by decide +kernel
theorem d17_2 : decode jdk_48_method_27_code 2 = .ok (.iload_n 2, 1) := by decide +kernel
theorem d17_3 : decode jdk_48_method_27_code 3 = .ok (.invokestatic 194, 3) := by decide +kernel
theorem pd_2 : parseMethodDescriptor "(II)I" = some ⟨[.int, .int], some .int⟩ := by decide +kernel
theorem d17_6 : decode jdk_48_method_27_code 6 = .ok (.iadd, 1) := by decide +kernel
theorem d17_7 : decode jdk_48_method_27_code 7 = .ok (.istore_n 3, 1) := by decide +kernel
theorem d17_8 : decode jdk_48_method_27_code 8 = .ok (.iconst 0, 1) := by decide +kernel
theorem d17_9 : decode jdk_48_method_27_code 9 = .ok (.iload_n 3, 1) := by decide +kernel
theorem d17_10 : decode jdk_48_method_27_code 10 = .ok (.if_icmp .ge 11, 3) := by decide +kernel
theorem d17_13 : decode jdk_48_method_27_code 13 = .ok (.iload_n 3, 1) := by decide +kernel
theorem d17_14 : decode jdk_48_method_27_code 14 = .ok (.ldc 200, 2) := by decide +kernel
theorem d17_16 : decode jdk_48_method_27_code 16 = .ok (.if_icmp .gt 5, 3) := by decide +kernel
theorem d17_19 : decode jdk_48_method_27_code 19 = .ok (.iload_n 3, 1) := by decide +kernel
theorem d17_20 : decode jdk_48_method_27_code 20 = .ok (.ireturn, 1) := by decide +kernel
theorem d17_21 : decode jdk_48_method_27_code 21 = .ok (.iload_n 0, 1) := by decide +kernel
theorem d17_22 : decode jdk_48_method_27_code 22 = .ok (.iload_n 1, 1) := by decide +kernel
theorem d17_23 : decode jdk_48_method_27_code 23 = .ok (.invokestatic 201, 3) := by decide +kernel
theorem d17_26 : decode jdk_48_method_27_code 26 = .ok (.ireturn, 1) := by decide +kernel
theorem pn_17 : plainName "jdk/internal/util/ArraysSupport" = true := by first | (simp [plainName, overriddenIn]; done) | decide +kernel
theorem ef_17 (m : MethodId) (x0 : Int32) (x1 : Int32) (x2 : Int32) : entryFrame m #[(.int x0), (.int x1), (.int x2)] 4 = mkF m 0 #[iv x0, iv x1, iv x2, un] [] := by first | (simp [entryFrame, mkF, argsToLocals, Value.category]; done) | rfl
def Q17 (Z : State) (zo : Int32) (zm : Int32) (zp : Int32) (na : Nat) (nb : Nat) (nc : Nat) (h0 : Heap) (n0 : Nat) (v : Option Value) (h : Heap) (L : List Loc) : Prop := ∃ r k, v = some (.int r) ∧ Fr n0 L ∧ h = h0 ∧ r.toInt = ((na + k : Nat) : Int) ∧ nb ≤ k ∧ nc ≤ k ∧ (k = nb ∨ k = nc)
set_option maxRecDepth 65536 in
set_option maxHeartbeats 40000000 in
theorem rm17 (l : Launch) (Z : State) (a0 : Array Value) (hw : ∀ d ∈ tables_1, d.before a0 Z = true) (ws : List Jvm.Cond) (zo : Int32) (zm : Int32) (zp : Int32) (na : Nat) (nb : Nat) (nc : Nat) (h0 : Heap) (n0 : Nat) (Z0 : n0 ≤ h0.size) (hzo : zo.toInt = (na : Int)) (hzm : zm.toInt = (nb : Int)) (hzp : zp.toInt = (nc : Int)) (hab : na < 10000 ∧ nb < 10000 ∧ nc < 10000 ∧ 0 < nb) :
    MetFree l (⟨"jdk/internal/util/ArraysSupport", "newLength", "(III)I"⟩ : MethodName) (head1 (Jvm.Cond.code (⟨"jdk/internal/util/ArraysSupport", "newLength", "(III)I"⟩ : MethodName) jdk_48_method_27_code 4 (some .int) :: ws) ({ frames := 2, cells := 0, slots := 0, locals := 40 } : Room)) (fun a U => a = #[(.int zo), (.int zm), (.int zp)] ∧ Z.Warmed39 U.vm ∧ U.heap = h0) (fun _ _ _ _ _ => True) (fun _ U o U' => ∃ v L, o = .returned v ∧ Q17 Z zo zm zp na nb nc h0 n0 v U'.heap L ∧ FrameEnd U o U' L ({ frames := 2, cells := 0, slots := 0, locals := 40 } : Room).cells ({ frames := 2, cells := 0, slots := 0, locals := 40 } : Room).slots) := by
  refine MetFree.of_bodySF (plainFor_of_name pn_17) hisR ?_
  intro p e s m args below meth c s₁ Bd hml0 hP hK
  obtain ⟨rfl, hZ, hh⟩ := hP
  have hx := Bd.exec
  have hby := Bd.bytes
  have hml : c.maxLocals = 4 := hml0
  have hown : s.vm.findClass "jdk/internal/util/ArraysSupport" = some m.cls := findClass_of_methodNamed Bd.named
  have hnm := (name_of_methodNamed Bd.named Bd.method).1
  have X0 : Stand p l e ({ frames := 2, cells := 0, slots := 0, locals := 40 } : Room) s m #[(.int zo), (.int zm), (.int zp)] below meth c s₁ [] 0 0 := Stand.of_body Bd
  have e0 : s₁.heap = h0 := by rw [← hh, Bd.state]; rfl
  have N0 := Fr.nil n0
  show Ends p.tables e below (fun (s₂ : State) (o : Outcome) => ∃ v L, o = .returned v ∧ (Q17 Z zo zm zp na nb nc h0 n0) v s₂.heap L ∧ FrameEnd s o s₂ L ({ frames := 2, cells := 0, slots := 0, locals := 40 } : Room).cells ({ frames := 2, cells := 0, slots := 0, locals := 40 } : Room).slots) (s₁.setTop (entryFrame m #[(.int zo), (.int zm), (.int zp)] 4))
  refine Ends.any fun G hG => ?_
  refine Ends.go (fun t k => castTop (ef_17 m zo zm zp) k) ?_
  show Ends p.tables e below G (s₁.setTop (mkF m 0 #[iv zo, iv zm, iv zp, un] []))
  refine Ends.go (fun _ => XS.iloadN X0.here hx rfl (hb hby d17_0) rfl) ?_
  show Ends p.tables e below G (s₁.setTop (mkF m 1 #[iv zo, iv zm, iv zp, un] [(.int zo)]))
  refine Ends.go (fun _ => XS.iloadN X0.here hx rfl (hb hby d17_1) rfl) ?_
  show Ends p.tables e below G (s₁.setTop (mkF m 2 #[iv zo, iv zm, iv zp, un] [(.int zm), (.int zo)]))
  refine Ends.go (fun _ => XS.iloadN X0.here hx rfl (hb hby d17_2) rfl) ?_
  show Ends p.tables e below G (s₁.setTop (mkF m 3 #[iv zo, iv zm, iv zp, un] [(.int zp), (.int zm), (.int zo)]))
  obtain ⟨_, _, ⟨T1, L1, k1, n1⟩, -, X1, ⟨Lc1, hQ1, l1, y1, z1⟩, st1⟩ := Jvm.LawKit.callS X0 hx (y := (⟨"java/lang/Math", "max", "(II)I"⟩ : MethodName)) hown (mvT hZ (hw _ (List.mem_of_getElem? (i := 97) rfl))) (mvT hZ (hw _ (List.mem_of_getElem? (i := 98) rfl))) (mvT hZ (hw _ (List.mem_of_getElem? (i := 99) rfl))) (mvT hZ (hw _ (List.mem_of_getElem? (i := 100) rfl))) (by decide) (backOf (W := 1) (rm18 l Z a0 hw [] zm zp h0 n0 Z0) hZ (hw _ (List.mem_of_getElem? (i := 100) rfl)) (hw _ (List.mem_of_getElem? (i := 99) rfl)) (by decide) (by decide)) (g := (mkF m 3 #[iv zo, iv zm, iv zp, un] [(.int zp), (.int zm), (.int zo)])) rfl (by rw [hml]; rfl) (argsL := [(.int zm), (.int zp)]) (rest := [(.int zo)]) (lenOf pd_2 rfl) rfl (by show 2 * 0 + _ ≤ _; exact Nat.le_of_eq rfl) (hb hby d17_3) (fun _ _ => ⟨rfl, e0, (by decide : 0 + 0 ≤ _), (by decide : 0 + 0 ≤ _)⟩)
  dsimp only [Pt.U, Pt.locs, Pt.cells, Pt.slots] at X1 l1 y1 z1 st1 hQ1
  subst l1 y1 z1
  obtain ⟨rr1, rfl, N1q, e1, hr1⟩ := hQ1
  have N1 := Fr.app N0 N1q
  refine Ends.go (fun _ => st1 _) ?_
  show Ends p.tables e below G (T1.setTop (mkF m 6 #[iv zo, iv zm, iv zp, un] [(.int rr1), (.int zo)]))
  obtain ⟨k, hk, hkb, hkc, hor⟩ : ∃ k : Nat, rr1.toInt = (k : Int) ∧ nb ≤ k ∧ nc ≤ k ∧ (k = nb ∨ k = nc) := by
    rcases hr1 with ⟨rfl, hl⟩ | ⟨rfl, hl⟩
    · rw [own_lt hzm hzp] at hl; exact ⟨nb, hzm, Nat.le_refl _, by omega, Or.inl rfl⟩
    · rw [own_lt hzm hzp] at hl; exact ⟨nc, hzp, by omega, Nat.le_refl _, Or.inr rfl⟩
  have hsum : (zo + rr1).toInt = ((na + k : Nat) : Int) := own_add hzo hk (by omega)
  refine Ends.go (fun _ => XS.iadd X1.here hx rfl (hb hby d17_6) rfl) ?_
  show Ends p.tables e below G (T1.setTop (mkF m 7 #[iv zo, iv zm, iv zp, un] [(.int (zo + rr1))]))
  refine Ends.go (fun _ => XS.istoreN (g := (mkF m 7 #[iv zo, iv zm, iv zp, un] [(.int (zo + rr1))])) X1.here hx rfl (hb hby d17_7) rfl (l' := #[iv zo, iv zm, iv zp, iv (zo + rr1)]) rfl) ?_
  show Ends p.tables e below G (T1.setTop (mkF m 8 #[iv zo, iv zm, iv zp, iv (zo + rr1)] []))
  refine Ends.go (fun _ => XS.iconst X1.here hx rfl (hb hby d17_8)) ?_
  show Ends p.tables e below G (T1.setTop (mkF m 9 #[iv zo, iv zm, iv zp, iv (zo + rr1)] [(.int (0 : Int32))]))
  refine Ends.go (fun _ => XS.iloadN X1.here hx rfl (hb hby d17_9) rfl) ?_
  show Ends p.tables e below G (T1.setTop (mkF m 10 #[iv zo, iv zm, iv zp, iv (zo + rr1)] [(.int (zo + rr1)), (.int (0 : Int32))]))
  refine Ends.go (fun _ => XS.icmpNo X1.here hx rfl (hb hby d17_10) rfl (tlt (((own_lt (a := 0) rfl hsum).mpr (by omega)) : (0 : Int32) < (zo + rr1))).2.1) ?_
  show Ends p.tables e below G (T1.setTop (mkF m 13 #[iv zo, iv zm, iv zp, iv (zo + rr1)] []))
  refine Ends.go (fun _ => XS.iloadN X1.here hx rfl (hb hby d17_13) rfl) ?_
  show Ends p.tables e below G (T1.setTop (mkF m 14 #[iv zo, iv zm, iv zp, iv (zo + rr1)] [(.int (zo + rr1))]))
  refine Ends.go (fun _ => X1.ldcInt hx hown (mvT hZ (hw _ (List.mem_of_getElem? (i := 101) rfl))) (g := (mkF m 14 #[iv zo, iv zm, iv zp, iv (zo + rr1)] [(.int (zo + rr1))])) rfl (hb hby d17_14) _) ?_
  show Ends p.tables e below G (T1.setTop (mkF m 16 #[iv zo, iv zm, iv zp, iv (zo + rr1)] [(.int (2147483639 : Int32)), (.int (zo + rr1))]))
  refine Ends.go (fun _ => XS.icmpNo X1.here hx rfl (hb hby d17_16) rfl (flt ((fun q => absurd ((own_lt (a := 2147483639) rfl hsum).mp q) (by omega)) : ¬ ((2147483639 : Int32) < (zo + rr1)))).2.2.1) ?_
  show Ends p.tables e below G (T1.setTop (mkF m 19 #[iv zo, iv zm, iv zp, iv (zo + rr1)] []))
  refine Ends.go (fun _ => XS.iloadN X1.here hx rfl (hb hby d17_19) rfl) ?_
  show Ends p.tables e below G (T1.setTop (mkF m 20 #[iv zo, iv zm, iv zp, iv (zo + rr1)] [(.int (zo + rr1))]))
  refine own_finI X1 hx Bd.returns Bd.notSynchronized (hb hby d17_20) (Q := (Q17 Z zo zm zp na nb nc h0 n0)) hG (by decide) (by decide) ?_
  show (Q17 Z zo zm zp na nb nc h0 n0) _ T1.heap _
  rw [e1]
  exact ⟨_, k, rfl, N1, rfl, hsum, hkb, hkc, hor⟩
theorem d16_0 : decode jdk_68_method_10_code 0 = .ok (.aload_n 0, 1) := by decide +kernel
theorem d16_1 : decode jdk_68_method_10_code 1 = .ok (.getfield 15, 3) := by decide +kernel
theorem d16_4 : decode jdk_68_method_10_code 4 = .ok (.arraylength, 1) := by decide +kernel
theorem d16_5 : decode jdk_68_method_10_code 5 = .ok (.istore_n 2, 1) := by decide +kernel
theorem d16_6 : decode jdk_68_method_10_code 6 = .ok (.iload_n 1, 1) := by decide +kernel
theorem d16_7 : decode jdk_68_method_10_code 7 = .ok (.aload_n 0, 1) := by decide +kernel
theorem d16_8 : decode jdk_68_method_10_code 8 = .ok (.getfield 22, 3) := by decide +kernel
theorem d16_11 : decode jdk_68_method_10_code 11 = .ok (.ishl, 1) := by decide +kernel
theorem d16_12 : decode jdk_68_method_10_code 12 = .ok (.istore_n 3, 1) := by decide +kernel
theorem d16_13 : decode jdk_68_method_10_code 13 = .ok (.iload_n 3, 1) := by decide +kernel
theorem d16_14 : decode jdk_68_method_10_code 14 = .ok (.iload_n 2, 1) := by decide +kernel
theorem d16_15 : decode jdk_68_method_10_code 15 = .ok (.isub, 1) := by decide +kernel
theorem d16_16 : decode jdk_68_method_10_code 16 = .ok (.istore 4, 2) := by decide +kernel
theorem d16_18 : decode jdk_68_method_10_code 18 = .ok (.iload_n 2, 1) := by decide +kernel
theorem d16_19 : decode jdk_68_method_10_code 19 = .ok (.iload 4, 2) := by decide +kernel
theorem d16_21 : decode jdk_68_method_10_code 21 = .ok (.iload_n 2, 1) := by decide +kernel
theorem d16_22 : decode jdk_68_method_10_code 22 = .ok (.iconst 2, 1) := by decide +kernel
theorem d16_23 : decode jdk_68_method_10_code 23 = .ok (.aload_n 0, 1) := by decide +kernel
theorem d16_24 : decode jdk_68_method_10_code 24 = .ok (.getfield 22, 3) := by decide +kernel
theorem d16_27 : decode jdk_68_method_10_code 27 = .ok (.ishl, 1) := by decide +kernel
theorem d16_28 : decode jdk_68_method_10_code 28 = .ok (.iadd, 1) := by decide +kernel
theorem d16_29 : decode jdk_68_method_10_code 29 = .ok (.invokestatic 114, 3) := by decide +kernel
theorem pd_3 : parseMethodDescriptor "(III)I" = some ⟨[.int, .int, .int], some .int⟩ := by decide +kernel
theorem d16_32 : decode jdk_68_method_10_code 32 = .ok (.istore 5, 2) := by decide +kernel
theorem d16_34 : decode jdk_68_method_10_code 34 = .ok (.iload 5, 2) := by decide +kernel
theorem d16_36 : decode jdk_68_method_10_code 36 = .ok (.ldc 39, 2) := by decide +kernel
theorem d16_38 : decode jdk_68_method_10_code 38 = .ok (.if_icmp .ne 13, 3) := by decide +kernel
theorem d16_41 : decode jdk_68_method_10_code 41 = .ok (.new 120, 3) := by decide +kernel
theorem d16_44 : decode jdk_68_method_10_code 44 = .ok (.dup, 1) := by decide +kernel
theorem d16_45 : decode jdk_68_method_10_code 45 = .ok (.ldc 122, 2) := by decide +kernel
theorem d16_47 : decode jdk_68_method_10_code 47 = .ok (.invokespecial 124, 3) := by decide +kernel
theorem d16_50 : decode jdk_68_method_10_code 50 = .ok (.athrow, 1) := by decide +kernel
theorem d16_51 : decode jdk_68_method_10_code 51 = .ok (.iload 5, 2) := by decide +kernel
theorem d16_53 : decode jdk_68_method_10_code 53 = .ok (.aload_n 0, 1) := by decide +kernel
theorem d16_54 : decode jdk_68_method_10_code 54 = .ok (.getfield 22, 3) := by decide +kernel
theorem d16_57 : decode jdk_68_method_10_code 57 = .ok (.ishr, 1) := by decide +kernel
theorem d16_58 : decode jdk_68_method_10_code 58 = .ok (.ireturn, 1) := by decide +kernel
theorem pn_16 : plainName "java/lang/AbstractStringBuilder" = true := by first | (simp [plainName, overriddenIn]; done) | decide +kernel
theorem ef_16 (m : MethodId) (x0 : Addr) (x1 : Int32) : entryFrame m #[(.ref x0), (.int x1)] 6 = mkF m 0 #[rv x0, iv x1, un, un, un, un] [] := by first | (simp [entryFrame, mkF, argsToLocals, Value.category]; done) | rfl
def Q16 (Z : State) (b : Addr) (d : Addr) (zA : Int32) (zn : Int32) (zM : Int32) (A : Nat) (M : Nat) (zc : Int32) (h0 : Heap) (n0 : Nat) (v : Option Value) (h : Heap) (L : List Loc) : Prop := ∃ r k, v = some (.int r) ∧ Fr n0 L ∧ h = h0 ∧ r.toInt = ((A + k : Nat) : Int) ∧ M - A ≤ k ∧ A + 2 ≤ k ∧ (k = M - A ∨ k = A + 2)
set_option maxRecDepth 65536 in
set_option maxHeartbeats 40000000 in
theorem rm16 (l : Launch) (Z : State) (a0 : Array Value) (hw : ∀ d ∈ tables_1, d.before a0 Z = true) (ws : List Jvm.Cond) (b : Addr) (d : Addr) (zA : Int32) (zn : Int32) (zM : Int32) (A : Nat) (M : Nat) (zc : Int32) (h0 : Heap) (n0 : Nat) (Z0 : n0 ≤ h0.size) (O0 : Old Z n0 h0) (SC : Sta Z Z.heap "java/lang/String" "COMPACT_STRINGS" "Z" (.int zc)) (hzc : ¬ (zc = (0 : Int32))) (SB : SBF Z h0 b d zA zn) (hA : zA.toInt = (A : Int)) (hM : zM.toInt = (M : Int)) (hAM : A < M ∧ M ≤ 200) :
    MetFree l (⟨"java/lang/AbstractStringBuilder", "newCapacity", "(I)I"⟩ : MethodName) (head1 (Jvm.Cond.code (⟨"java/lang/AbstractStringBuilder", "newCapacity", "(I)I"⟩ : MethodName) jdk_68_method_10_code 6 (some .int) :: ws) ({ frames := 3, cells := 0, slots := 0, locals := 60 } : Room)) (fun a U => a = #[(.ref b), (.int zM)] ∧ Z.Warmed39 U.vm ∧ U.heap = h0) (fun _ _ _ _ _ => True) (fun _ U o U' => ∃ v L, o = .returned v ∧ Q16 Z b d zA zn zM A M zc h0 n0 v U'.heap L ∧ FrameEnd U o U' L ({ frames := 3, cells := 0, slots := 0, locals := 60 } : Room).cells ({ frames := 3, cells := 0, slots := 0, locals := 60 } : Room).slots) := by
  refine MetFree.of_bodySF (plainFor_of_name pn_16) hisR ?_
  intro p e s m args below meth c s₁ Bd hml0 hP hK
  obtain ⟨rfl, hZ, hh⟩ := hP
  have hx := Bd.exec
  have hby := Bd.bytes
  have hml : c.maxLocals = 6 := hml0
  have hown : s.vm.findClass "java/lang/AbstractStringBuilder" = some m.cls := findClass_of_methodNamed Bd.named
  have hnm := (name_of_methodNamed Bd.named Bd.method).1
  have X0 : Stand p l e ({ frames := 3, cells := 0, slots := 0, locals := 60 } : Room) s m #[(.ref b), (.int zM)] below meth c s₁ [] 0 0 := Stand.of_body Bd
  have e0 : s₁.heap = h0 := by rw [← hh, Bd.state]; rfl
  have N0 := Fr.nil n0
  show Ends p.tables e below (fun (s₂ : State) (o : Outcome) => ∃ v L, o = .returned v ∧ (Q16 Z b d zA zn zM A M zc h0 n0) v s₂.heap L ∧ FrameEnd s o s₂ L ({ frames := 3, cells := 0, slots := 0, locals := 60 } : Room).cells ({ frames := 3, cells := 0, slots := 0, locals := 60 } : Room).slots) (s₁.setTop (entryFrame m #[(.ref b), (.int zM)] 6))
  refine Ends.any fun G hG => ?_
  refine Ends.go (fun t k => castTop (ef_16 m b zM) k) ?_
  show Ends p.tables e below G (s₁.setTop (mkF m 0 #[rv b, iv zM, un, un, un, un] []))
  obtain ⟨Eb_b, Fv_b, Fc_b, Fn_b, Ba_b, Ea_b⟩ := SB
  have ne_b_d : b ≠ d := Exa.ne Eb_b Ea_b (by decide)
  refine Ends.go (fun _ => XS.aloadN X0.here hx rfl (hb hby d16_0) rfl rfl) ?_
  show Ends p.tables e below G (s₁.setTop (mkF m 1 #[rv b, iv zM, un, un, un, un] [(.ref b)]))
  obtain ⟨T1, X1, e1, st1⟩ := getF X0 hx hZ hown (host := "") (Or.inl (hw _ (List.mem_of_getElem? (i := 54) rfl))) Via.refl e0 Fv_b (g := (mkF m 1 #[rv b, iv zM, un, un, un, un] [(.ref b)])) rfl rfl (hb hby d16_1)
  refine Ends.go (fun _ => st1 _) ?_
  show Ends p.tables e below G (T1.setTop (mkF m 4 #[rv b, iv zM, un, un, un, un] [(.ref d)]))
  refine Ends.go (fun _ => BA.len Ba_b X1 hx hZ e1 (g := (mkF m 4 #[rv b, iv zM, un, un, un, un] [(.ref d)])) rfl rfl (hb hby d16_4) _) ?_
  show Ends p.tables e below G (T1.setTop (mkF m 5 #[rv b, iv zM, un, un, un, un] [(.int zA)]))
  refine Ends.go (fun _ => XS.istoreN (g := (mkF m 5 #[rv b, iv zM, un, un, un, un] [(.int zA)])) X1.here hx rfl (hb hby d16_5) rfl (l' := #[rv b, iv zM, iv zA, un, un, un]) rfl) ?_
  show Ends p.tables e below G (T1.setTop (mkF m 6 #[rv b, iv zM, iv zA, un, un, un] []))
  refine Ends.go (fun _ => XS.iloadN X1.here hx rfl (hb hby d16_6) rfl) ?_
  show Ends p.tables e below G (T1.setTop (mkF m 7 #[rv b, iv zM, iv zA, un, un, un] [(.int zM)]))
  refine Ends.go (fun _ => XS.aloadN X1.here hx rfl (hb hby d16_7) rfl rfl) ?_
  show Ends p.tables e below G (T1.setTop (mkF m 8 #[rv b, iv zM, iv zA, un, un, un] [(.ref b), (.int zM)]))
  obtain ⟨T2, X2, e2, st2⟩ := getF X1 hx hZ hown (host := "") (Or.inl (hw _ (List.mem_of_getElem? (i := 56) rfl))) Via.refl e1 Fc_b (g := (mkF m 8 #[rv b, iv zM, iv zA, un, un, un] [(.ref b), (.int zM)])) rfl rfl (hb hby d16_8)
  refine Ends.go (fun _ => st2 _) ?_
  show Ends p.tables e below G (T2.setTop (mkF m 11 #[rv b, iv zM, iv zA, un, un, un] [(.int (0 : Int32)), (.int zM)]))
  refine Ends.go (fun _ => XS.ishl X2.here hx rfl (hb hby d16_11) rfl) ?_
  show Ends p.tables e below G (T2.setTop (mkF m 12 #[rv b, iv zM, iv zA, un, un, un] [(.int (zM <<< ((0 : Int32) &&& 31)))]))
  rw [show (zM <<< ((0 : Int32) &&& 31)) = zM from own_shl0 zM]
  show Ends p.tables e below G (T2.setTop (mkF m 12 #[rv b, iv zM, iv zA, un, un, un] [(.int zM)]))
  refine Ends.go (fun _ => XS.istoreN (g := (mkF m 12 #[rv b, iv zM, iv zA, un, un, un] [(.int zM)])) X2.here hx rfl (hb hby d16_12) rfl (l' := #[rv b, iv zM, iv zA, iv zM, un, un]) rfl) ?_
  show Ends p.tables e below G (T2.setTop (mkF m 13 #[rv b, iv zM, iv zA, iv zM, un, un] []))
  refine Ends.go (fun _ => XS.iloadN X2.here hx rfl (hb hby d16_13) rfl) ?_
  show Ends p.tables e below G (T2.setTop (mkF m 14 #[rv b, iv zM, iv zA, iv zM, un, un] [(.int zM)]))
  refine Ends.go (fun _ => XS.iloadN X2.here hx rfl (hb hby d16_14) rfl) ?_
  show Ends p.tables e below G (T2.setTop (mkF m 15 #[rv b, iv zM, iv zA, iv zM, un, un] [(.int zA), (.int zM)]))
  refine Ends.go (fun _ => XS.isub X2.here hx rfl (hb hby d16_15) rfl) ?_
  show Ends p.tables e below G (T2.setTop (mkF m 16 #[rv b, iv zM, iv zA, iv zM, un, un] [(.int (zM - zA))]))
  refine Ends.go (fun _ => XS.istore (g := (mkF m 16 #[rv b, iv zM, iv zA, iv zM, un, un] [(.int (zM - zA))])) X2.here hx rfl (hb hby d16_16) rfl (l' := #[rv b, iv zM, iv zA, iv zM, iv (zM - zA), un]) rfl) ?_
  show Ends p.tables e below G (T2.setTop (mkF m 18 #[rv b, iv zM, iv zA, iv zM, iv (zM - zA), un] []))
  refine Ends.go (fun _ => XS.iloadN X2.here hx rfl (hb hby d16_18) rfl) ?_
  show Ends p.tables e below G (T2.setTop (mkF m 19 #[rv b, iv zM, iv zA, iv zM, iv (zM - zA), un] [(.int zA)]))
  refine Ends.go (fun _ => XS.iload X2.here hx rfl (hb hby d16_19) rfl) ?_
  show Ends p.tables e below G (T2.setTop (mkF m 21 #[rv b, iv zM, iv zA, iv zM, iv (zM - zA), un] [(.int (zM - zA)), (.int zA)]))
  refine Ends.go (fun _ => XS.iloadN X2.here hx rfl (hb hby d16_21) rfl) ?_
  show Ends p.tables e below G (T2.setTop (mkF m 22 #[rv b, iv zM, iv zA, iv zM, iv (zM - zA), un] [(.int zA), (.int (zM - zA)), (.int zA)]))
  refine Ends.go (fun _ => XS.iconst X2.here hx rfl (hb hby d16_22)) ?_
  show Ends p.tables e below G (T2.setTop (mkF m 23 #[rv b, iv zM, iv zA, iv zM, iv (zM - zA), un] [(.int (2 : Int32)), (.int zA), (.int (zM - zA)), (.int zA)]))
  refine Ends.go (fun _ => XS.aloadN X2.here hx rfl (hb hby d16_23) rfl rfl) ?_
  show Ends p.tables e below G (T2.setTop (mkF m 24 #[rv b, iv zM, iv zA, iv zM, iv (zM - zA), un] [(.ref b), (.int (2 : Int32)), (.int zA), (.int (zM - zA)), (.int zA)]))
  obtain ⟨T3, X3, e3, st3⟩ := getF X2 hx hZ hown (host := "") (Or.inl (hw _ (List.mem_of_getElem? (i := 56) rfl))) Via.refl e2 Fc_b (g := (mkF m 24 #[rv b, iv zM, iv zA, iv zM, iv (zM - zA), un] [(.ref b), (.int (2 : Int32)), (.int zA), (.int (zM - zA)), (.int zA)])) rfl rfl (hb hby d16_24)
  refine Ends.go (fun _ => st3 _) ?_
  show Ends p.tables e below G (T3.setTop (mkF m 27 #[rv b, iv zM, iv zA, iv zM, iv (zM - zA), un] [(.int (0 : Int32)), (.int (2 : Int32)), (.int zA), (.int (zM - zA)), (.int zA)]))
  refine Ends.go (fun _ => XS.ishl X3.here hx rfl (hb hby d16_27) rfl) ?_
  show Ends p.tables e below G (T3.setTop (mkF m 28 #[rv b, iv zM, iv zA, iv zM, iv (zM - zA), un] [(.int ((2 : Int32) <<< ((0 : Int32) &&& 31))), (.int zA), (.int (zM - zA)), (.int zA)]))
  rw [show ((2 : Int32) <<< ((0 : Int32) &&& 31)) = (2 : Int32) from own_shl0 (2 : Int32)]
  show Ends p.tables e below G (T3.setTop (mkF m 28 #[rv b, iv zM, iv zA, iv zM, iv (zM - zA), un] [(.int (2 : Int32)), (.int zA), (.int (zM - zA)), (.int zA)]))
  refine Ends.go (fun _ => XS.iadd X3.here hx rfl (hb hby d16_28) rfl) ?_
  show Ends p.tables e below G (T3.setTop (mkF m 29 #[rv b, iv zM, iv zA, iv zM, iv (zM - zA), un] [(.int (zA + (2 : Int32))), (.int (zM - zA)), (.int zA)]))
  have hms : (zM - zA).toInt = ((M - A : Nat) : Int) := own_sub hM hA (by omega) (by omega)
  have hp2 : (zA + (2 : Int32)).toInt = ((A + 2 : Nat) : Int) := own_add (b := 2) hA rfl (by omega)
  obtain ⟨_, _, ⟨T4, L4, k4, n4⟩, -, X4, ⟨Lc4, hQ4, l4, y4, z4⟩, st4⟩ := Jvm.LawKit.callS X3 hx (y := (⟨"jdk/internal/util/ArraysSupport", "newLength", "(III)I"⟩ : MethodName)) hown (mvT hZ (hw _ (List.mem_of_getElem? (i := 93) rfl))) (mvT hZ (hw _ (List.mem_of_getElem? (i := 94) rfl))) (mvT hZ (hw _ (List.mem_of_getElem? (i := 95) rfl))) (mvT hZ (hw _ (List.mem_of_getElem? (i := 96) rfl))) (by decide) (backOf (W := 0) (rm17 l Z a0 hw [] zA (zM - zA) (zA + (2 : Int32)) A (M - A) (A + 2) h0 n0 Z0 hA hms hp2 (by omega)) hZ (hw _ (List.mem_of_getElem? (i := 96) rfl)) (hw _ (List.mem_of_getElem? (i := 95) rfl)) (by decide) (by decide)) (g := (mkF m 29 #[rv b, iv zM, iv zA, iv zM, iv (zM - zA), un] [(.int (zA + (2 : Int32))), (.int (zM - zA)), (.int zA)])) rfl (by rw [hml]; rfl) (argsL := [(.int zA), (.int (zM - zA)), (.int (zA + (2 : Int32)))]) (rest := []) (lenOf pd_3 rfl) rfl (by show 2 * 0 + _ ≤ _; exact Nat.le_of_eq rfl) (hb hby d16_29) (fun _ _ => ⟨rfl, e3, (by decide : 0 + 0 ≤ _), (by decide : 0 + 0 ≤ _)⟩)
  dsimp only [Pt.U, Pt.locs, Pt.cells, Pt.slots] at X4 l4 y4 z4 st4 hQ4
  subst l4 y4 z4
  obtain ⟨rr4, kk4, rfl, N4q, e4, hr4, ha4, hb4, ho4⟩ := hQ4
  have N4 := Fr.app N0 N4q
  refine Ends.go (fun _ => st4 _) ?_
  show Ends p.tables e below G (T4.setTop (mkF m 32 #[rv b, iv zM, iv zA, iv zM, iv (zM - zA), un] [(.int rr4)]))
  refine Ends.go (fun _ => XS.istore (g := (mkF m 32 #[rv b, iv zM, iv zA, iv zM, iv (zM - zA), un] [(.int rr4)])) X4.here hx rfl (hb hby d16_32) rfl (l' := #[rv b, iv zM, iv zA, iv zM, iv (zM - zA), iv rr4]) rfl) ?_
  show Ends p.tables e below G (T4.setTop (mkF m 34 #[rv b, iv zM, iv zA, iv zM, iv (zM - zA), iv rr4] []))
  refine Ends.go (fun _ => XS.iload X4.here hx rfl (hb hby d16_34) rfl) ?_
  show Ends p.tables e below G (T4.setTop (mkF m 36 #[rv b, iv zM, iv zA, iv zM, iv (zM - zA), iv rr4] [(.int rr4)]))
  refine Ends.go (fun _ => X4.ldcInt hx hown (mvT hZ (hw _ (List.mem_of_getElem? (i := 102) rfl))) (g := (mkF m 36 #[rv b, iv zM, iv zA, iv zM, iv (zM - zA), iv rr4] [(.int rr4)])) rfl (hb hby d16_36) _) ?_
  show Ends p.tables e below G (T4.setTop (mkF m 38 #[rv b, iv zM, iv zA, iv zM, iv (zM - zA), iv rr4] [(.int (2147483647 : Int32)), (.int rr4)]))
  refine Ends.go (fun _ => XS.icmpYes X4.here hx rfl (pc0 := 38) (pc' := 51) rfl (hb hby d16_38) rfl (feq ((fun q => absurd ((own_eqn (b := 2147483647) hr4 rfl).mp q) (by omega)) : ¬ (rr4 = (2147483647 : Int32)))).2 (by decide) (by decide)) ?_
  show Ends p.tables e below G (T4.setTop (mkF m 51 #[rv b, iv zM, iv zA, iv zM, iv (zM - zA), iv rr4] []))
  refine Ends.go (fun _ => XS.iload X4.here hx rfl (hb hby d16_51) rfl) ?_
  show Ends p.tables e below G (T4.setTop (mkF m 53 #[rv b, iv zM, iv zA, iv zM, iv (zM - zA), iv rr4] [(.int rr4)]))
  refine Ends.go (fun _ => XS.aloadN X4.here hx rfl (hb hby d16_53) rfl rfl) ?_
  show Ends p.tables e below G (T4.setTop (mkF m 54 #[rv b, iv zM, iv zA, iv zM, iv (zM - zA), iv rr4] [(.ref b), (.int rr4)]))
  obtain ⟨T5, X5, e5, st5⟩ := getF X4 hx hZ hown (host := "") (Or.inl (hw _ (List.mem_of_getElem? (i := 56) rfl))) Via.refl e4 Fc_b (g := (mkF m 54 #[rv b, iv zM, iv zA, iv zM, iv (zM - zA), iv rr4] [(.ref b), (.int rr4)])) rfl rfl (hb hby d16_54)
  refine Ends.go (fun _ => st5 _) ?_
  show Ends p.tables e below G (T5.setTop (mkF m 57 #[rv b, iv zM, iv zA, iv zM, iv (zM - zA), iv rr4] [(.int (0 : Int32)), (.int rr4)]))
  refine Ends.go (fun _ => XS.ishr X5.here hx rfl (hb hby d16_57) rfl) ?_
  show Ends p.tables e below G (T5.setTop (mkF m 58 #[rv b, iv zM, iv zA, iv zM, iv (zM - zA), iv rr4] [(.int (rr4 >>> ((0 : Int32) &&& 31)))]))
  rw [show (rr4 >>> ((0 : Int32) &&& 31)) = rr4 from own_shr0 rr4]
  show Ends p.tables e below G (T5.setTop (mkF m 58 #[rv b, iv zM, iv zA, iv zM, iv (zM - zA), iv rr4] [(.int rr4)]))
  refine own_finI X5 hx Bd.returns Bd.notSynchronized (hb hby d16_58) (Q := (Q16 Z b d zA zn zM A M zc h0 n0)) hG (by decide) (by decide) ?_
  show (Q16 Z b d zA zn zM A M zc h0 n0) _ T5.heap _
  rw [e5]
  exact ⟨_, kk4, rfl, N4, rfl, hr4, ha4, hb4, ho4⟩
theorem d19_0 : decode jdk_65_method_121_code 0 = .ok (.iload_n 1, 1) := by decide +kernel
theorem d19_1 : decode jdk_65_method_121_code 1 = .ok (.aload_n 0, 1) := by decide +kernel
theorem d19_2 : decode jdk_65_method_121_code 2 = .ok (.arraylength, 1) := by decide +kernel
theorem d19_3 : decode jdk_65_method_121_code 3 = .ok (.if_icmp .ne 11, 3) := by decide +kernel
theorem d19_6 : decode jdk_65_method_121_code 6 = .ok (.aload_n 0, 1) := by decide +kernel
theorem d19_7 : decode jdk_65_method_121_code 7 = .ok (.invokevirtual 310, 3) := by decide +kernel
theorem pd_4 : parseMethodDescriptor "()Ljava/lang/Object;" = some ⟨[], some (.object "java/lang/Object")⟩ := by decide +kernel
theorem d19_10 : decode jdk_65_method_121_code 10 = .ok (.checkcast 311, 3) := by decide +kernel
theorem d19_13 : decode jdk_65_method_121_code 13 = .ok (.areturn, 1) := by decide +kernel
theorem d19_14 : decode jdk_65_method_121_code 14 = .ok (.iload_n 1, 1) := by decide +kernel
theorem d19_15 : decode jdk_65_method_121_code 15 = .ok (.newarray .byte, 2) := by decide +kernel
theorem d19_17 : decode jdk_65_method_121_code 17 = .ok (.astore_n 2, 1) := by decide +kernel
theorem d19_18 : decode jdk_65_method_121_code 18 = .ok (.aload_n 0, 1) := by decide +kernel
theorem d19_19 : decode jdk_65_method_121_code 19 = .ok (.iconst 0, 1) := by decide +kernel
theorem d19_20 : decode jdk_65_method_121_code 20 = .ok (.aload_n 2, 1) := by decide +kernel
theorem d19_21 : decode jdk_65_method_121_code 21 = .ok (.iconst 0, 1) := by decide +kernel
theorem d19_22 : decode jdk_65_method_121_code 22 = .ok (.aload_n 0, 1) := by decide +kernel
theorem d19_23 : decode jdk_65_method_121_code 23 = .ok (.arraylength, 1) := by decide +kernel
theorem d19_24 : decode jdk_65_method_121_code 24 = .ok (.iload_n 1, 1) := by decide +kernel
theorem d19_25 : decode jdk_65_method_121_code 25 = .ok (.invokestatic 304, 3) := by decide +kernel
theorem d19_28 : decode jdk_65_method_121_code 28 = .ok (.invokestatic 150, 3) := by decide +kernel
theorem pd_5 : parseMethodDescriptor "(Ljava/lang/Object;ILjava/lang/Object;II)V" = some ⟨[(.object "java/lang/Object"), .int, (.object "java/lang/Object"), .int, .int], none⟩ := by decide +kernel
theorem d19_31 : decode jdk_65_method_121_code 31 = .ok (.aload_n 2, 1) := by decide +kernel
theorem d19_32 : decode jdk_65_method_121_code 32 = .ok (.areturn, 1) := by decide +kernel
theorem pn_19 : plainName "java/util/Arrays" = true := by first | (simp [plainName, overriddenIn]; done) | decide +kernel
theorem ef_19 (m : MethodId) (x0 : Addr) (x1 : Int32) : entryFrame m #[(.ref x0), (.int x1)] 3 = mkF m 0 #[rv x0, iv x1, un] [] := by first | (simp [entryFrame, mkF, argsToLocals, Value.category]; done) | rfl
def Q19 (Z : State) (d : Addr) (zA : Int32) (zN : Int32) (A : Nat) (NN : Nat) (h0 : Heap) (n0 : Nat) (v : Option Value) (h : Heap) (L : List Loc) : Prop := ∃ d', v = some (.ref d') ∧ Fr n0 L ∧ Keep h0 h [] ∧ h0.size ≤ d' ∧ BA Z h d' zN ∧ Exa Z h d' "[B"
set_option maxRecDepth 65536 in
set_option maxHeartbeats 40000000 in
theorem rm19 (l : Launch) (Z : State) (a0 : Array Value) (hw : ∀ d ∈ tables_1, d.before a0 Z = true) (ws : List Jvm.Cond) (d : Addr) (zA : Int32) (zN : Int32) (A : Nat) (NN : Nat) (h0 : Heap) (n0 : Nat) (Z0 : n0 ≤ h0.size) (O0 : Old Z n0 h0) (BD : BA Z h0 d zA) (hA : zA.toInt = (A : Int)) (hN : zN.toInt = (NN : Int)) (hAN : A < NN ∧ NN ≤ 400) :
    MetFree l (⟨"java/util/Arrays", "copyOf", "([BI)[B"⟩ : MethodName) (head1 (Jvm.Cond.code (⟨"java/util/Arrays", "copyOf", "([BI)[B"⟩ : MethodName) jdk_65_method_121_code 3 (some (.array .byte)) :: ws) ({ frames := 2, cells := 1, slots := 400, locals := 40 } : Room)) (fun a U => a = #[(.ref d), (.int zN)] ∧ Z.Warmed39 U.vm ∧ U.heap = h0) (fun _ _ _ _ _ => True) (fun _ U o U' => ∃ v L, o = .returned v ∧ Q19 Z d zA zN A NN h0 n0 v U'.heap L ∧ FrameEnd U o U' L ({ frames := 2, cells := 1, slots := 400, locals := 40 } : Room).cells ({ frames := 2, cells := 1, slots := 400, locals := 40 } : Room).slots) := by
  refine MetFree.of_bodySF (plainFor_of_name pn_19) hisR ?_
  intro p e s m args below meth c s₁ Bd hml0 hP hK
  obtain ⟨rfl, hZ, hh⟩ := hP
  have hx := Bd.exec
  have hby := Bd.bytes
  have hml : c.maxLocals = 3 := hml0
  have hown : s.vm.findClass "java/util/Arrays" = some m.cls := findClass_of_methodNamed Bd.named
  have hnm := (name_of_methodNamed Bd.named Bd.method).1
  have X0 : Stand p l e ({ frames := 2, cells := 1, slots := 400, locals := 40 } : Room) s m #[(.ref d), (.int zN)] below meth c s₁ [] 0 0 := Stand.of_body Bd
  have e0 : s₁.heap = h0 := by rw [← hh, Bd.state]; rfl
  have N0 := Fr.nil n0
  show Ends p.tables e below (fun (s₂ : State) (o : Outcome) => ∃ v L, o = .returned v ∧ (Q19 Z d zA zN A NN h0 n0) v s₂.heap L ∧ FrameEnd s o s₂ L ({ frames := 2, cells := 1, slots := 400, locals := 40 } : Room).cells ({ frames := 2, cells := 1, slots := 400, locals := 40 } : Room).slots) (s₁.setTop (entryFrame m #[(.ref d), (.int zN)] 3))
  refine Ends.any fun G hG => ?_
  refine Ends.go (fun t k => castTop (ef_19 m d zN) k) ?_
  show Ends p.tables e below G (s₁.setTop (mkF m 0 #[rv d, iv zN, un] []))
  refine Ends.go (fun _ => XS.iloadN X0.here hx rfl (hb hby d19_0) rfl) ?_
  show Ends p.tables e below G (s₁.setTop (mkF m 1 #[rv d, iv zN, un] [(.int zN)]))
  refine Ends.go (fun _ => XS.aloadN X0.here hx rfl (hb hby d19_1) rfl rfl) ?_
  show Ends p.tables e below G (s₁.setTop (mkF m 2 #[rv d, iv zN, un] [(.ref d), (.int zN)]))
  refine Ends.go (fun _ => BA.len BD X0 hx hZ e0 (g := (mkF m 2 #[rv d, iv zN, un] [(.ref d), (.int zN)])) rfl rfl (hb hby d19_2) _) ?_
  show Ends p.tables e below G (s₁.setTop (mkF m 3 #[rv d, iv zN, un] [(.int zA), (.int zN)]))
  refine Ends.go (fun _ => XS.icmpYes X0.here hx rfl (pc0 := 3) (pc' := 14) rfl (hb hby d19_3) rfl (feq ((fun q => absurd ((own_eqn hN hA).mp q) (by omega)) : ¬ (zN = zA))).2 (by decide) (by decide)) ?_
  show Ends p.tables e below G (s₁.setTop (mkF m 14 #[rv d, iv zN, un] []))
  refine Ends.go (fun _ => XS.iloadN X0.here hx rfl (hb hby d19_14) rfl) ?_
  show Ends p.tables e below G (s₁.setTop (mkF m 15 #[rv d, iv zN, un] [(.int zN)]))
  obtain ⟨T1, h1, k1, X1, e1, E1, A1, Y1, st1⟩ := newPE X0 hx hZ (hw _ (List.mem_of_getElem? (i := 23) rfl)) e0 (g := (mkF m 15 #[rv d, iv zN, un] [(.int zN)])) rfl (hb hby d19_15) rfl (by rw [Int32.lt_iff_toInt_lt, hN]; have o0 : (0 : Int32).toInt = 0 := rfl; omega) (cap := 400) (by rw [own_tn hN]; omega) (by decide) (by decide) (by decide) (ad := "[B") (by decide)
  obtain ⟨b1, g1⟩ : ∃ z, z = h0.size := ⟨_, rfl⟩
  rw [← g1] at A1 Y1 st1
  have g_b1 : n0 ≤ b1 := Nat.le_trans Z0 (Nat.le_of_eq g1.symm)
  have szo_b1 : h0.size ≤ b1 := Nat.le_trans ((Keep.refl h0 [])).1 (Nat.le_of_eq g1.symm)
  have ne_d_b1 : d ≠ b1 := Nat.ne_of_lt (Nat.lt_of_lt_of_le (BA.lt BD) (Nat.le_of_eq g1.symm))
  have f1_P_d := BA.ext BD E1
  have sz1 := Nat.le_trans Z0 E1.1
  have K1 := Keep.ext (Keep.refl h0 []) E1
  have O1 := Old.ext O0 E1
  have V1 : BA Z h1 b1 zN := BA.new A1 (by rw [Int32.lt_iff_toInt_lt, hN]; have o0 : (0 : Int32).toInt = 0 := rfl; omega)
  refine Ends.go (fun _ => st1 _) ?_
  show Ends p.tables e below G (T1.setTop (mkF m 17 #[rv d, iv zN, un] [(.ref b1)]))
  refine Ends.go (fun _ => XS.astoreN (g := (mkF m 17 #[rv d, iv zN, un] [(.ref b1)])) X1.here hx rfl (hb hby d19_17) rfl rfl (l' := #[rv d, iv zN, rv b1]) rfl) ?_
  show Ends p.tables e below G (T1.setTop (mkF m 18 #[rv d, iv zN, rv b1] []))
  refine Ends.go (fun _ => XS.aloadN X1.here hx rfl (hb hby d19_18) rfl rfl) ?_
  show Ends p.tables e below G (T1.setTop (mkF m 19 #[rv d, iv zN, rv b1] [(.ref d)]))
  refine Ends.go (fun _ => XS.iconst X1.here hx rfl (hb hby d19_19)) ?_
  show Ends p.tables e below G (T1.setTop (mkF m 20 #[rv d, iv zN, rv b1] [(.int (0 : Int32)), (.ref d)]))
  refine Ends.go (fun _ => XS.aloadN X1.here hx rfl (hb hby d19_20) rfl rfl) ?_
  show Ends p.tables e below G (T1.setTop (mkF m 21 #[rv d, iv zN, rv b1] [(.ref b1), (.int (0 : Int32)), (.ref d)]))
  refine Ends.go (fun _ => XS.iconst X1.here hx rfl (hb hby d19_21)) ?_
  show Ends p.tables e below G (T1.setTop (mkF m 22 #[rv d, iv zN, rv b1] [(.int (0 : Int32)), (.ref b1), (.int (0 : Int32)), (.ref d)]))
  refine Ends.go (fun _ => XS.aloadN X1.here hx rfl (hb hby d19_22) rfl rfl) ?_
  show Ends p.tables e below G (T1.setTop (mkF m 23 #[rv d, iv zN, rv b1] [(.ref d), (.int (0 : Int32)), (.ref b1), (.int (0 : Int32)), (.ref d)]))
  refine Ends.go (fun _ => BA.len f1_P_d X1 hx hZ e1 (g := (mkF m 23 #[rv d, iv zN, rv b1] [(.ref d), (.int (0 : Int32)), (.ref b1), (.int (0 : Int32)), (.ref d)])) rfl rfl (hb hby d19_23) _) ?_
  show Ends p.tables e below G (T1.setTop (mkF m 24 #[rv d, iv zN, rv b1] [(.int zA), (.int (0 : Int32)), (.ref b1), (.int (0 : Int32)), (.ref d)]))
  refine Ends.go (fun _ => XS.iloadN X1.here hx rfl (hb hby d19_24) rfl) ?_
  show Ends p.tables e below G (T1.setTop (mkF m 25 #[rv d, iv zN, rv b1] [(.int zN), (.int zA), (.int (0 : Int32)), (.ref b1), (.int (0 : Int32)), (.ref d)]))
  obtain ⟨_, _, ⟨T2, L2, k2, n2⟩, -, X2, ⟨Lc2, hQ2, l2, y2, z2⟩, st2⟩ := Jvm.LawKit.callS X1 hx (y := (⟨"java/lang/Math", "min", "(II)I"⟩ : MethodName)) hown (mvT hZ (hw _ (List.mem_of_getElem? (i := 107) rfl))) (mvT hZ (hw _ (List.mem_of_getElem? (i := 108) rfl))) (mvT hZ (hw _ (List.mem_of_getElem? (i := 99) rfl))) (mvT hZ (hw _ (List.mem_of_getElem? (i := 109) rfl))) (by decide) (backOf (W := 4) (rm20 l Z a0 hw [] zA zN h1 n0 sz1) hZ (hw _ (List.mem_of_getElem? (i := 109) rfl)) (hw _ (List.mem_of_getElem? (i := 99) rfl)) (by decide) (by decide)) (g := (mkF m 25 #[rv d, iv zN, rv b1] [(.int zN), (.int zA), (.int (0 : Int32)), (.ref b1), (.int (0 : Int32)), (.ref d)])) rfl (by rw [hml]; rfl) (argsL := [(.int zA), (.int zN)]) (rest := [(.int (0 : Int32)), (.ref b1), (.int (0 : Int32)), (.ref d)]) (lenOf pd_2 rfl) rfl (by show 2 * 0 + _ ≤ _; exact Nat.le_of_eq rfl) (hb hby d19_25) (fun _ _ => ⟨rfl, e1, (by decide : (0 + 1) + 0 ≤ _), (by decide : (0 + 400) + 0 ≤ _)⟩)
  dsimp only [Pt.U, Pt.locs, Pt.cells, Pt.slots] at X2 l2 y2 z2 st2 hQ2
  subst l2 y2 z2
  obtain ⟨rr2, rfl, N2q, e2, hr2⟩ := hQ2
  have N2 := Fr.app N0 N2q
  refine Ends.go (fun _ => st2 _) ?_
  show Ends p.tables e below G (T2.setTop (mkF m 28 #[rv d, iv zN, rv b1] [(.int rr2), (.int (0 : Int32)), (.ref b1), (.int (0 : Int32)), (.ref d)]))
  have hm2 : rr2.toInt = (A : Int) := by
    rcases hr2 with ⟨rfl, hl⟩ | ⟨rfl, hl⟩
    · exact hA
    · rw [own_lt hN hA] at hl; omega
  obtain ⟨T3, h3, L3, X3, e3, N3, K3, V3, st3⟩ := BA.cp f1_P_d V1 X2 hx hZ hown (hw _ (List.mem_of_getElem? (i := 110) rfl)) (hw _ (List.mem_of_getElem? (i := 113) rfl)) (hw _ (List.mem_of_getElem? (i := 111) rfl)) (hw _ (List.mem_of_getElem? (i := 112) rfl)) e2 hA hN (sn := 0) rfl (dn := 0) rfl hm2 (by omega) (by omega) N2 g_b1 (g := (mkF m 28 #[rv d, iv zN, rv b1] [(.int rr2), (.int (0 : Int32)), (.ref b1), (.int (0 : Int32)), (.ref d)])) rfl (by rw [hml]; rfl) rfl (hb hby d19_28) (by decide) (W := 0) (by show 2 * 0 + _ ≤ _; exact Nat.le_of_eq rfl) (by decide)
  have f3k_P_d := BA.keep f1_P_d K3 (ninS ne_d_b1 nin0)
  have f3k_E_b1 := Exa.keep Y1 K3
  have sz3k := Nat.le_trans sz1 (K3).1
  have K3kz := Keep.trans K1 K3 (allS (Or.inr szo_b1) all0)
  have O3k := Old.keep O1 K3 (allS g_b1 all0)
  refine Ends.go (fun _ => st3 _) ?_
  show Ends p.tables e below G (T3.setTop (mkF m 31 #[rv d, iv zN, rv b1] []))
  refine Ends.go (fun _ => XS.aloadN X3.here hx rfl (hb hby d19_31) rfl rfl) ?_
  show Ends p.tables e below G (T3.setTop (mkF m 32 #[rv d, iv zN, rv b1] [(.ref b1)]))
  refine own_finR X3 hx Bd.returns rfl Bd.notSynchronized (hb hby d19_32) (Q := (Q19 Z d zA zN A NN h0 n0)) hG (by decide) (by decide) ?_
  show (Q19 Z d zA zN A NN h0 n0) _ T3.heap _
  rw [e3]
  exact ⟨b1, rfl, N3, K3kz, szo_b1, V3, f3k_E_b1⟩
theorem d15_0 : decode jdk_68_method_9_code 0 = .ok (.aload_n 0, 1) := by decide +kernel
theorem d15_1 : decode jdk_68_method_9_code 1 = .ok (.getfield 15, 3) := by decide +kernel
theorem d15_4 : decode jdk_68_method_9_code 4 = .ok (.arraylength, 1) := by decide +kernel
theorem d15_5 : decode jdk_68_method_9_code 5 = .ok (.aload_n 0, 1) := by decide +kernel
theorem d15_6 : decode jdk_68_method_9_code 6 = .ok (.getfield 22, 3) := by decide +kernel
theorem d15_9 : decode jdk_68_method_9_code 9 = .ok (.ishr, 1) := by decide +kernel
theorem d15_10 : decode jdk_68_method_9_code 10 = .ok (.istore_n 2, 1) := by decide +kernel
theorem d15_11 : decode jdk_68_method_9_code 11 = .ok (.iload_n 1, 1) := by decide +kernel
theorem d15_12 : decode jdk_68_method_9_code 12 = .ok (.iload_n 2, 1) := by decide +kernel
theorem d15_13 : decode jdk_68_method_9_code 13 = .ok (.isub, 1) := by decide +kernel
theorem d15_14 : decode jdk_68_method_9_code 14 = .ok (.ifCond .le 24, 3) := by decide +kernel
theorem d15_17 : decode jdk_68_method_9_code 17 = .ok (.aload_n 0, 1) := by decide +kernel
theorem d15_18 : decode jdk_68_method_9_code 18 = .ok (.aload_n 0, 1) := by decide +kernel
theorem d15_19 : decode jdk_68_method_9_code 19 = .ok (.getfield 15, 3) := by decide +kernel
theorem d15_22 : decode jdk_68_method_9_code 22 = .ok (.aload_n 0, 1) := by decide +kernel
theorem d15_23 : decode jdk_68_method_9_code 23 = .ok (.iload_n 1, 1) := by decide +kernel
theorem d15_24 : decode jdk_68_method_9_code 24 = .ok (.invokevirtual 104, 3) := by decide +kernel
theorem pd_6 : parseMethodDescriptor "(I)I" = some ⟨[.int], some .int⟩ := by decide +kernel
theorem d15_27 : decode jdk_68_method_9_code 27 = .ok (.aload_n 0, 1) := by decide +kernel
theorem d15_28 : decode jdk_68_method_9_code 28 = .ok (.getfield 22, 3) := by decide +kernel
theorem d15_31 : decode jdk_68_method_9_code 31 = .ok (.ishl, 1) := by decide +kernel
theorem d15_32 : decode jdk_68_method_9_code 32 = .ok (.invokestatic 108, 3) := by decide +kernel
theorem pd_7 : parseMethodDescriptor "([BI)[B" = some ⟨[(.array .byte), .int], some (.array .byte)⟩ := by decide +kernel
theorem d15_35 : decode jdk_68_method_9_code 35 = .ok (.putfield 15, 3) := by decide +kernel
theorem d15_38 : decode jdk_68_method_9_code 38 = .ok (.return_, 1) := by decide +kernel
theorem pn_15 : plainName "java/lang/AbstractStringBuilder" = true := by first | (simp [plainName, overriddenIn]; done) | decide +kernel
theorem ef_15 (m : MethodId) (x0 : Addr) (x1 : Int32) : entryFrame m #[(.ref x0), (.int x1)] 3 = mkF m 0 #[rv x0, iv x1, un] [] := by first | (simp [entryFrame, mkF, argsToLocals, Value.category]; done) | rfl
def Q15 (Z : State) (b : Addr) (d : Addr) (zA : Int32) (zn : Int32) (zM : Int32) (A : Nat) (M : Nat) (zc : Int32) (h0 : Heap) (n0 : Nat) (v : Option Value) (h : Heap) (L : List Loc) : Prop := ∃ (d' : Addr) (zA' : Int32) (A' : Nat), v = none ∧ Fr n0 L ∧ Keep h0 h [b] ∧ SBF Z h b d' zA' zn ∧ zA'.toInt = (A' : Int) ∧ n0 ≤ d' ∧ ((M ≤ A ∧ A' = A ∧ d' = d) ∨ (A < M ∧ h0.size ≤ d' ∧ ∃ k, A' = A + k ∧ M - A ≤ k ∧ A + 2 ≤ k ∧ (k = M - A ∨ k = A + 2)))
set_option maxRecDepth 65536 in
set_option maxHeartbeats 40000000 in
theorem rm15 (l : Launch) (Z : State) (a0 : Array Value) (hw : ∀ d ∈ tables_1, d.before a0 Z = true) (ws : List Jvm.Cond) (b : Addr) (d : Addr) (zA : Int32) (zn : Int32) (zM : Int32) (A : Nat) (M : Nat) (zc : Int32) (h0 : Heap) (n0 : Nat) (Z0 : n0 ≤ h0.size) (O0 : Old Z n0 h0) (SC : Sta Z Z.heap "java/lang/String" "COMPACT_STRINGS" "Z" (.int zc)) (hzc : ¬ (zc = (0 : Int32))) (SB : SBF Z h0 b d zA zn) (g_b : n0 ≤ b) (g_d : n0 ≤ d) (hA : zA.toInt = (A : Int)) (hM : zM.toInt = (M : Int)) (hM1 : A ≤ 100) (hM2 : M ≤ 200) :
    MetFree l (⟨"java/lang/AbstractStringBuilder", "ensureCapacityInternal", "(I)V"⟩ : MethodName) (head1 (Jvm.Cond.code (⟨"java/lang/AbstractStringBuilder", "ensureCapacityInternal", "(I)V"⟩ : MethodName) jdk_68_method_9_code 3 none :: ws) ({ frames := 4, cells := 1, slots := 400, locals := 80 } : Room)) (fun a U => a = #[(.ref b), (.int zM)] ∧ Z.Warmed39 U.vm ∧ U.heap = h0) (fun _ _ _ _ _ => True) (fun _ U o U' => ∃ v L, o = .returned v ∧ Q15 Z b d zA zn zM A M zc h0 n0 v U'.heap L ∧ FrameEnd U o U' L ({ frames := 4, cells := 1, slots := 400, locals := 80 } : Room).cells ({ frames := 4, cells := 1, slots := 400, locals := 80 } : Room).slots) := by
  refine MetFree.of_bodySF (plainFor_of_name pn_15) hisR ?_
  intro p e s m args below meth c s₁ Bd hml0 hP hK
  obtain ⟨rfl, hZ, hh⟩ := hP
  have hx := Bd.exec
  have hby := Bd.bytes
  have hml : c.maxLocals = 3 := hml0
  have hown : s.vm.findClass "java/lang/AbstractStringBuilder" = some m.cls := findClass_of_methodNamed Bd.named
  have hnm := (name_of_methodNamed Bd.named Bd.method).1
  have X0 : Stand p l e ({ frames := 4, cells := 1, slots := 400, locals := 80 } : Room) s m #[(.ref b), (.int zM)] below meth c s₁ [] 0 0 := Stand.of_body Bd
  have e0 : s₁.heap = h0 := by rw [← hh, Bd.state]; rfl
  have N0 := Fr.nil n0
  show Ends p.tables e below (fun (s₂ : State) (o : Outcome) => ∃ v L, o = .returned v ∧ (Q15 Z b d zA zn zM A M zc h0 n0) v s₂.heap L ∧ FrameEnd s o s₂ L ({ frames := 4, cells := 1, slots := 400, locals := 80 } : Room).cells ({ frames := 4, cells := 1, slots := 400, locals := 80 } : Room).slots) (s₁.setTop (entryFrame m #[(.ref b), (.int zM)] 3))
  refine Ends.any fun G hG => ?_
  refine Ends.go (fun t k => castTop (ef_15 m b zM) k) ?_
  show Ends p.tables e below G (s₁.setTop (mkF m 0 #[rv b, iv zM, un] []))
  obtain ⟨Eb_b, Fv_b, Fc_b, Fn_b, Ba_b, Ea_b⟩ := SB
  have ne_b_d : b ≠ d := Exa.ne Eb_b Ea_b (by decide)
  refine Ends.go (fun _ => XS.aloadN X0.here hx rfl (hb hby d15_0) rfl rfl) ?_
  show Ends p.tables e below G (s₁.setTop (mkF m 1 #[rv b, iv zM, un] [(.ref b)]))
  obtain ⟨T1, X1, e1, st1⟩ := getF X0 hx hZ hown (host := "") (Or.inl (hw _ (List.mem_of_getElem? (i := 54) rfl))) Via.refl e0 Fv_b (g := (mkF m 1 #[rv b, iv zM, un] [(.ref b)])) rfl rfl (hb hby d15_1)
  refine Ends.go (fun _ => st1 _) ?_
  show Ends p.tables e below G (T1.setTop (mkF m 4 #[rv b, iv zM, un] [(.ref d)]))
  refine Ends.go (fun _ => BA.len Ba_b X1 hx hZ e1 (g := (mkF m 4 #[rv b, iv zM, un] [(.ref d)])) rfl rfl (hb hby d15_4) _) ?_
  show Ends p.tables e below G (T1.setTop (mkF m 5 #[rv b, iv zM, un] [(.int zA)]))
  refine Ends.go (fun _ => XS.aloadN X1.here hx rfl (hb hby d15_5) rfl rfl) ?_
  show Ends p.tables e below G (T1.setTop (mkF m 6 #[rv b, iv zM, un] [(.ref b), (.int zA)]))
  obtain ⟨T2, X2, e2, st2⟩ := getF X1 hx hZ hown (host := "") (Or.inl (hw _ (List.mem_of_getElem? (i := 56) rfl))) Via.refl e1 Fc_b (g := (mkF m 6 #[rv b, iv zM, un] [(.ref b), (.int zA)])) rfl rfl (hb hby d15_6)
  refine Ends.go (fun _ => st2 _) ?_
  show Ends p.tables e below G (T2.setTop (mkF m 9 #[rv b, iv zM, un] [(.int (0 : Int32)), (.int zA)]))
  refine Ends.go (fun _ => XS.ishr X2.here hx rfl (hb hby d15_9) rfl) ?_
  show Ends p.tables e below G (T2.setTop (mkF m 10 #[rv b, iv zM, un] [(.int (zA >>> ((0 : Int32) &&& 31)))]))
  rw [show (zA >>> ((0 : Int32) &&& 31)) = zA from own_shr0 zA]
  show Ends p.tables e below G (T2.setTop (mkF m 10 #[rv b, iv zM, un] [(.int zA)]))
  refine Ends.go (fun _ => XS.istoreN (g := (mkF m 10 #[rv b, iv zM, un] [(.int zA)])) X2.here hx rfl (hb hby d15_10) rfl (l' := #[rv b, iv zM, iv zA]) rfl) ?_
  show Ends p.tables e below G (T2.setTop (mkF m 11 #[rv b, iv zM, iv zA] []))
  refine Ends.go (fun _ => XS.iloadN X2.here hx rfl (hb hby d15_11) rfl) ?_
  show Ends p.tables e below G (T2.setTop (mkF m 12 #[rv b, iv zM, iv zA] [(.int zM)]))
  refine Ends.go (fun _ => XS.iloadN X2.here hx rfl (hb hby d15_12) rfl) ?_
  show Ends p.tables e below G (T2.setTop (mkF m 13 #[rv b, iv zM, iv zA] [(.int zA), (.int zM)]))
  refine Ends.go (fun _ => XS.isub X2.here hx rfl (hb hby d15_13) rfl) ?_
  show Ends p.tables e below G (T2.setTop (mkF m 14 #[rv b, iv zM, iv zA] [(.int (zM - zA))]))
  have hsb : M ≤ A ∨ A < M := Nat.lt_or_ge A M |>.symm
  have hsg : ¬ ((0 : Int32) < zM - zA) ↔ M ≤ A := by
    rw [Int32.lt_iff_toInt_lt]
    have q1 := c_isub zM zA
    have q2 := rng32 (zM - zA)
    have o0 : (0 : Int32).toInt = 0 := rfl
    omega
  by_cases hle : M ≤ A
  · refine Ends.go (fun _ => XS.ifYes X2.here hx rfl (pc0 := 14) (pc' := 38) rfl (hb hby d15_14) rfl ((if0 _ _).trans (flt ((hsg.mpr hle) : ¬ ((0 : Int32) < (zM - zA)))).2.2.2) (by decide) (by decide)) ?_
    show Ends p.tables e below G (T2.setTop (mkF m 38 #[rv b, iv zM, iv zA] []))
    refine own_finN X2 hx Bd.returns Bd.notSynchronized (hb hby d15_38) (Q := (Q15 Z b d zA zn zM A M zc h0 n0)) hG (by decide) (by decide) ?_
    show (Q15 Z b d zA zn zM A M zc h0 n0) _ T2.heap _
    rw [e2]
    exact ⟨d, zA, A, rfl, N0, (Keep.refl h0 [b]), ⟨Eb_b, Fv_b, Fc_b, Fn_b, Ba_b, Ea_b⟩, hA, g_d, Or.inl ⟨hle, rfl, rfl⟩⟩
  · have hlt : A < M := by omega
    refine Ends.go (fun _ => XS.ifNo X2.here hx rfl (hb hby d15_14) rfl ((if0 _ _).trans (tlt ((Decidable.not_not.mp (fun q => hle (hsg.mp q))) : (0 : Int32) < (zM - zA))).2.2.2)) ?_
    show Ends p.tables e below G (T2.setTop (mkF m 17 #[rv b, iv zM, iv zA] []))
    refine Ends.go (fun _ => XS.aloadN X2.here hx rfl (hb hby d15_17) rfl rfl) ?_
    show Ends p.tables e below G (T2.setTop (mkF m 18 #[rv b, iv zM, iv zA] [(.ref b)]))
    refine Ends.go (fun _ => XS.aloadN X2.here hx rfl (hb hby d15_18) rfl rfl) ?_
    show Ends p.tables e below G (T2.setTop (mkF m 19 #[rv b, iv zM, iv zA] [(.ref b), (.ref b)]))
    obtain ⟨T3, X3, e3, st3⟩ := getF X2 hx hZ hown (host := "") (Or.inl (hw _ (List.mem_of_getElem? (i := 54) rfl))) Via.refl e2 Fv_b (g := (mkF m 19 #[rv b, iv zM, iv zA] [(.ref b), (.ref b)])) rfl rfl (hb hby d15_19)
    refine Ends.go (fun _ => st3 _) ?_
    show Ends p.tables e below G (T3.setTop (mkF m 22 #[rv b, iv zM, iv zA] [(.ref d), (.ref b)]))
    refine Ends.go (fun _ => XS.aloadN X3.here hx rfl (hb hby d15_22) rfl rfl) ?_
    show Ends p.tables e below G (T3.setTop (mkF m 23 #[rv b, iv zM, iv zA] [(.ref b), (.ref d), (.ref b)]))
    refine Ends.go (fun _ => XS.iloadN X3.here hx rfl (hb hby d15_23) rfl) ?_
    show Ends p.tables e below G (T3.setTop (mkF m 24 #[rv b, iv zM, iv zA] [(.int zM), (.ref b), (.ref d), (.ref b)]))
    obtain ⟨cq4, q4, q4'⟩ := Eb_b.cell
    obtain ⟨_, _, ⟨T4, L4, k4, n4⟩, -, X4, ⟨Lc4, hQ4, l4, y4, z4⟩, st4⟩ := X3.privateBack hx (y := (⟨"java/lang/AbstractStringBuilder", "newCapacity", "(I)I"⟩ : MethodName)) hown (mvT hZ (hw _ (List.mem_of_getElem? (i := 88) rfl))) (mvT hZ (hw _ (List.mem_of_getElem? (i := 89) rfl))) (own_selC (a1 := #[]) (mvT hZ (hw _ (List.mem_of_getElem? (i := 91) rfl))) (Cond.privateMethod_at (mvP hZ (hw _ (List.mem_of_getElem? (i := 90) rfl)) (args := #[]))) (mvT hZ (hw _ (List.mem_of_getElem? (i := 89) rfl))) (by decide)) (Cond.privateMethod_at (mvP hZ (hw _ (List.mem_of_getElem? (i := 90) rfl)) (args := #[]))) (mvT hZ (hw _ (List.mem_of_getElem? (i := 92) rfl))) (by decide) (backOf (W := 2) (rm16 l Z a0 hw [] b d zA zn zM A M zc h0 n0 Z0 O0 SC hzc ⟨Eb_b, Fv_b, Fc_b, Fn_b, Ba_b, Ea_b⟩ hA hM ⟨hlt, hM2⟩) hZ (hw _ (List.mem_of_getElem? (i := 92) rfl)) (hw _ (List.mem_of_getElem? (i := 50) rfl)) (by decide) (by decide)) (g := (mkF m 24 #[rv b, iv zM, iv zA] [(.int zM), (.ref b), (.ref d), (.ref b)])) rfl (by rw [hml]; rfl) (Steps.refl _) (a := b) (by rw [e3]; exact q4) q4' (argsL := [(.int zM)]) (rest := [(.ref d), (.ref b)]) (lenOf pd_6 rfl) rfl (by show 2 * 0 + _ ≤ _; exact Nat.le_of_eq rfl) (hb hby d15_24) (fun _ _ => ⟨rfl, e3, (by decide : 0 + 0 ≤ _), (by decide : 0 + 0 ≤ _)⟩)
    dsimp only [Pt.U, Pt.locs, Pt.cells, Pt.slots] at X4 l4 y4 z4 st4 hQ4
    subst l4 y4 z4
    obtain ⟨rr4, kk4, rfl, N4q, e4, hr4, ha4, hb4, ho4⟩ := hQ4
    have N4 := Fr.app N0 N4q
    refine Ends.go (fun _ => st4.trans) ?_
    show Ends p.tables e below G (T4.setTop (mkF m 27 #[rv b, iv zM, iv zA] [(.int rr4), (.ref d), (.ref b)]))
    refine Ends.go (fun _ => XS.aloadN X4.here hx rfl (hb hby d15_27) rfl rfl) ?_
    show Ends p.tables e below G (T4.setTop (mkF m 28 #[rv b, iv zM, iv zA] [(.ref b), (.int rr4), (.ref d), (.ref b)]))
    obtain ⟨T5, X5, e5, st5⟩ := getF X4 hx hZ hown (host := "") (Or.inl (hw _ (List.mem_of_getElem? (i := 56) rfl))) Via.refl e4 Fc_b (g := (mkF m 28 #[rv b, iv zM, iv zA] [(.ref b), (.int rr4), (.ref d), (.ref b)])) rfl rfl (hb hby d15_28)
    refine Ends.go (fun _ => st5 _) ?_
    show Ends p.tables e below G (T5.setTop (mkF m 31 #[rv b, iv zM, iv zA] [(.int (0 : Int32)), (.int rr4), (.ref d), (.ref b)]))
    refine Ends.go (fun _ => XS.ishl X5.here hx rfl (hb hby d15_31) rfl) ?_
    show Ends p.tables e below G (T5.setTop (mkF m 32 #[rv b, iv zM, iv zA] [(.int (rr4 <<< ((0 : Int32) &&& 31))), (.ref d), (.ref b)]))
    rw [show (rr4 <<< ((0 : Int32) &&& 31)) = rr4 from own_shl0 rr4]
    show Ends p.tables e below G (T5.setTop (mkF m 32 #[rv b, iv zM, iv zA] [(.int rr4), (.ref d), (.ref b)]))
    obtain ⟨_, _, ⟨T6, L6, k6, n6⟩, -, X6, ⟨Lc6, hQ6, l6, y6, z6⟩, st6⟩ := Jvm.LawKit.callS X5 hx (y := (⟨"java/util/Arrays", "copyOf", "([BI)[B"⟩ : MethodName)) hown (mvT hZ (hw _ (List.mem_of_getElem? (i := 103) rfl))) (mvT hZ (hw _ (List.mem_of_getElem? (i := 104) rfl))) (mvT hZ (hw _ (List.mem_of_getElem? (i := 105) rfl))) (mvT hZ (hw _ (List.mem_of_getElem? (i := 106) rfl))) (by decide) (backOf (W := 1) (rm19 l Z a0 hw [] d zA rr4 A (A + kk4) h0 n0 Z0 O0 Ba_b hA hr4 (by omega)) hZ (hw _ (List.mem_of_getElem? (i := 106) rfl)) (hw _ (List.mem_of_getElem? (i := 105) rfl)) (by decide) (by decide)) (g := (mkF m 32 #[rv b, iv zM, iv zA] [(.int rr4), (.ref d), (.ref b)])) rfl (by rw [hml]; rfl) (argsL := [(.ref d), (.int rr4)]) (rest := [(.ref b)]) (lenOf pd_7 rfl) rfl (by show 2 * 0 + _ ≤ _; exact Nat.le_of_eq rfl) (hb hby d15_32) (fun _ _ => ⟨rfl, e5, (by decide : (0 + 0) + 1 ≤ _), (by decide : (0 + 0) + 400 ≤ _)⟩)
    dsimp only [Pt.U, Pt.locs, Pt.cells, Pt.slots] at X6 l6 y6 z6 st6 hQ6
    subst l6 y6 z6
    obtain ⟨dn6, rfl, N6q, Kq6, gs6, Bq6, Eq6⟩ := hQ6
    have N6 := Fr.app N4 N6q
    have gd6 : n0 ≤ dn6 := Nat.le_trans Z0 gs6
    have ne_b_dn6 : b ≠ dn6 := Nat.ne_of_lt (Nat.lt_of_lt_of_le Eb_b.lt gs6)
    have ne_d_dn6 : d ≠ dn6 := Nat.ne_of_lt (Nat.lt_of_lt_of_le (BA.lt Ba_b) gs6)
    have szo_dn6 : h0.size ≤ dn6 := Nat.le_trans ((Keep.refl h0 [b])).1 gs6
    have f6_E_b := Exa.keep Eb_b Kq6
    have f6_F_b_value := Fld.keep Fv_b Kq6 nin0
    have f6_F_b_coder := Fld.keep Fc_b Kq6 nin0
    have f6_F_b_count := Fld.keep Fn_b Kq6 nin0
    have f6_P_d := BA.keep Ba_b Kq6 nin0
    have f6_E_d := Exa.keep Ea_b Kq6
    have sz6 := Nat.le_trans Z0 (Kq6).1
    have K6z := Keep.trans (Keep.refl h0 [b]) Kq6 all0
    have O6 := Old.keep O0 Kq6 all0
    refine Ends.go (fun _ => st6 _) ?_
    show Ends p.tables e below G (T6.setTop (mkF m 35 #[rv b, iv zM, iv zA] [(.ref dn6), (.ref b)]))
    obtain ⟨T7, h7, X7, e7, W7, st7⟩ := putF X6 hx hZ hown (host := "") (Or.inl (hw _ (List.mem_of_getElem? (i := 54) rfl))) Via.refl rfl f6_F_b_value f6_E_b (Or.inl (hw _ (List.mem_of_getElem? (i := 55) rfl))) (hw _ (List.mem_of_getElem? (i := 41) rfl)) (ty := (.array .byte)) (by decide) rfl rfl (g := (mkF m 35 #[rv b, iv zM, iv zA] [(.ref dn6), (.ref b)])) rfl rfl (hb hby d15_35)
    have f7_E_b := f6_E_b.wr W7
    have f7_F_b_value := f6_F_b_value.same W7
    have f7_F_b_coder := f6_F_b_coder.other W7 (Or.inr (slot_ne (Or.inl (hw _ (List.mem_of_getElem? (i := 57) rfl))) (Or.inl (hw _ (List.mem_of_getElem? (i := 55) rfl))) (by decide) (t := .byte) (t' := (.array .byte)) (by decide) (by decide)))
    have f7_F_b_count := f6_F_b_count.other W7 (Or.inr (slot_ne (Or.inl (hw _ (List.mem_of_getElem? (i := 82) rfl))) (Or.inl (hw _ (List.mem_of_getElem? (i := 55) rfl))) (by decide) (t := .int) (t' := (.array .byte)) (by decide) (by decide)))
    have f7_E_d := f6_E_d.wr W7
    have f7_E_dn6 := Eq6.wr W7
    have sz7 := Nat.le_trans sz6 (Nat.le_of_eq W7.size.symm)
    have K7 := Keep.wr K6z W7 (Or.inl (List.mem_of_getElem? (i := 0) rfl))
    have N7 := Fr.snoc X7 N6 g_b
    have f7_P_d := BA.other f6_P_d W7 (Ne.symm ne_b_d)
    have f7_P_dn6 := BA.other Bq6 W7 (Ne.symm ne_b_dn6)
    have O7 := Old.wr O6 W7 g_b
    refine Ends.go (fun _ => st7 _) ?_
    show Ends p.tables e below G (T7.setTop (mkF m 38 #[rv b, iv zM, iv zA] []))
    refine own_finN X7 hx Bd.returns Bd.notSynchronized (hb hby d15_38) (Q := (Q15 Z b d zA zn zM A M zc h0 n0)) hG (by decide) (by decide) ?_
    show (Q15 Z b d zA zn zM A M zc h0 n0) _ T7.heap _
    rw [e7]
    exact ⟨dn6, rr4, A + kk4, rfl, N7, K7, ⟨f7_E_b, f7_F_b_value, f7_F_b_coder, f7_F_b_count, f7_P_dn6, f7_E_dn6⟩, hr4, gd6, Or.inr ⟨hlt, szo_dn6, kk4, rfl, ha4, hb4, ho4⟩⟩
theorem d22_0 : decode jdk_68_method_71_code 0 = .ok (.getstatic 18, 3) := by decide +kernel
theorem d22_3 : decode jdk_68_method_71_code 3 = .ok (.ifCond .eq 18, 3) := by decide +kernel
theorem d22_6 : decode jdk_68_method_71_code 6 = .ok (.aload_n 0, 1) := by decide +kernel
theorem d22_7 : decode jdk_68_method_71_code 7 = .ok (.getfield 22, 3) := by decide +kernel
theorem d22_10 : decode jdk_68_method_71_code 10 = .ok (.aload_n 1, 1) := by decide +kernel
theorem d22_11 : decode jdk_68_method_71_code 11 = .ok (.invokevirtual 40, 3) := by decide +kernel
theorem d22_14 : decode jdk_68_method_71_code 14 = .ok (.if_icmp .eq 7, 3) := by decide +kernel
theorem d22_17 : decode jdk_68_method_71_code 17 = .ok (.aload_n 0, 1) := by decide +kernel
theorem d22_18 : decode jdk_68_method_71_code 18 = .ok (.invokevirtual 195, 3) := by decide +kernel
theorem d22_21 : decode jdk_68_method_71_code 21 = .ok (.return_, 1) := by decide +kernel
theorem pn_22 : plainName "java/lang/AbstractStringBuilder" = true := by first | (simp [plainName, overriddenIn]; done) | decide +kernel
theorem ef_22 (m : MethodId) (x0 : Addr) (x1 : Addr) : entryFrame m #[(.ref x0), (.ref x1)] 2 = mkF m 0 #[rv x0, rv x1] [] := by first | (simp [entryFrame, mkF, argsToLocals, Value.category]; done) | rfl
def Q22 (Z : State) (b : Addr) (d : Addr) (zA : Int32) (zn : Int32) (x : Addr) (ds : Addr) (zs : Int32) (zc : Int32) (h0 : Heap) (n0 : Nat) (v : Option Value) (h : Heap) (L : List Loc) : Prop := v = none ∧ Fr n0 L ∧ h = h0
set_option maxRecDepth 65536 in
set_option maxHeartbeats 40000000 in
theorem rm22 (l : Launch) (Z : State) (a0 : Array Value) (hw : ∀ d ∈ tables_1, d.before a0 Z = true) (ws : List Jvm.Cond) (b : Addr) (d : Addr) (zA : Int32) (zn : Int32) (x : Addr) (ds : Addr) (zs : Int32) (zc : Int32) (h0 : Heap) (n0 : Nat) (Z0 : n0 ≤ h0.size) (O0 : Old Z n0 h0) (SC : Sta Z Z.heap "java/lang/String" "COMPACT_STRINGS" "Z" (.int zc)) (hzc : ¬ (zc = (0 : Int32))) (SB : SBF Z h0 b d zA zn) (ST : STF Z h0 x ds zs) :
    MetFree l (⟨"java/lang/AbstractStringBuilder", "inflateIfNeededFor", "(Ljava/lang/String;)V"⟩ : MethodName) (head1 (Jvm.Cond.code (⟨"java/lang/AbstractStringBuilder", "inflateIfNeededFor", "(Ljava/lang/String;)V"⟩ : MethodName) jdk_68_method_71_code 2 none :: ws) ({ frames := 2, cells := 0, slots := 0, locals := 40 } : Room)) (fun a U => a = #[(.ref b), (.ref x)] ∧ Z.Warmed39 U.vm ∧ U.heap = h0) (fun _ _ _ _ _ => True) (fun _ U o U' => ∃ v L, o = .returned v ∧ Q22 Z b d zA zn x ds zs zc h0 n0 v U'.heap L ∧ FrameEnd U o U' L ({ frames := 2, cells := 0, slots := 0, locals := 40 } : Room).cells ({ frames := 2, cells := 0, slots := 0, locals := 40 } : Room).slots) := by
  refine MetFree.of_bodySF (plainFor_of_name pn_22) hisR ?_
  intro p e s m args below meth c s₁ Bd hml0 hP hK
  obtain ⟨rfl, hZ, hh⟩ := hP
  have hx := Bd.exec
  have hby := Bd.bytes
  have hml : c.maxLocals = 2 := hml0
  have hown : s.vm.findClass "java/lang/AbstractStringBuilder" = some m.cls := findClass_of_methodNamed Bd.named
  have hnm := (name_of_methodNamed Bd.named Bd.method).1
  have X0 : Stand p l e ({ frames := 2, cells := 0, slots := 0, locals := 40 } : Room) s m #[(.ref b), (.ref x)] below meth c s₁ [] 0 0 := Stand.of_body Bd
  have e0 : s₁.heap = h0 := by rw [← hh, Bd.state]; rfl
  have N0 := Fr.nil n0
  show Ends p.tables e below (fun (s₂ : State) (o : Outcome) => ∃ v L, o = .returned v ∧ (Q22 Z b d zA zn x ds zs zc h0 n0) v s₂.heap L ∧ FrameEnd s o s₂ L ({ frames := 2, cells := 0, slots := 0, locals := 40 } : Room).cells ({ frames := 2, cells := 0, slots := 0, locals := 40 } : Room).slots) (s₁.setTop (entryFrame m #[(.ref b), (.ref x)] 2))
  refine Ends.any fun G hG => ?_
  refine Ends.go (fun t k => castTop (ef_22 m b x) k) ?_
  show Ends p.tables e below G (s₁.setTop (mkF m 0 #[rv b, rv x] []))
  obtain ⟨Eb_b, Fv_b, Fc_b, Fn_b, Ba_b, Ea_b⟩ := SB
  have ne_b_d : b ≠ d := Exa.ne Eb_b Ea_b (by decide)
  obtain ⟨Es_x, Fv_x, Fc_x, Bs_x⟩ := ST
  obtain ⟨T1, X1, e1, st1⟩ := getS2 X0 hx hZ hown (host := "") (Or.inl (hw _ (List.mem_of_getElem? (i := 53) rfl))) Via.refl e0 (Sta.ext O0.2 SC) (g := (mkF m 0 #[rv b, rv x] [])) rfl (hb hby d22_0)
  refine Ends.go (fun _ => st1 _) ?_
  show Ends p.tables e below G (T1.setTop (mkF m 3 #[rv b, rv x] [(.int zc)]))
  refine Ends.go (fun _ => XS.ifNo X1.here hx rfl (hb hby d22_3) rfl ((if0 _ _).trans (feq (hzc : ¬ (zc = (0 : Int32)))).1)) ?_
  show Ends p.tables e below G (T1.setTop (mkF m 6 #[rv b, rv x] []))
  refine Ends.go (fun _ => XS.aloadN X1.here hx rfl (hb hby d22_6) rfl rfl) ?_
  show Ends p.tables e below G (T1.setTop (mkF m 7 #[rv b, rv x] [(.ref b)]))
  obtain ⟨T2, X2, e2, st2⟩ := getF X1 hx hZ hown (host := "") (Or.inl (hw _ (List.mem_of_getElem? (i := 56) rfl))) Via.refl e1 Fc_b (g := (mkF m 7 #[rv b, rv x] [(.ref b)])) rfl rfl (hb hby d22_7)
  refine Ends.go (fun _ => st2 _) ?_
  show Ends p.tables e below G (T2.setTop (mkF m 10 #[rv b, rv x] [(.int (0 : Int32))]))
  refine Ends.go (fun _ => XS.aloadN X2.here hx rfl (hb hby d22_10) rfl rfl) ?_
  show Ends p.tables e below G (T2.setTop (mkF m 11 #[rv b, rv x] [(.ref x), (.int (0 : Int32))]))
  obtain ⟨cq3, kq3, q3a, q3b, q3c⟩ := isOf hZ e2 Es_x
  obtain ⟨_, _, ⟨T3, L3, k3, n3⟩, -, X3, ⟨Lc3, hQ3, l3, y3, z3⟩, st3⟩ := X2.virtualBack hx (y := (⟨"java/lang/String", "coder", "()B"⟩ : MethodName)) (z := (⟨"java/lang/String", "coder", "()B"⟩ : MethodName)) hown (mvT hZ (hw _ (List.mem_of_getElem? (i := 124) rfl))) (mvT hZ (hw _ (List.mem_of_getElem? (i := 77) rfl))) (notFace_of_selects (args := #[]) (mvT hZ (hw _ (List.mem_of_getElem? (i := 79) rfl)))) (mvT hZ (hw _ (List.mem_of_getElem? (i := 79) rfl))) (mvT hZ (hw _ (List.mem_of_getElem? (i := 78) rfl))) (by decide) (backOf (W := 1) (rm14 l Z a0 hw [] x ds zs zc h0 n0 Z0 O0 SC hzc ⟨Es_x, Fv_x, Fc_x, Bs_x⟩) hZ (hw _ (List.mem_of_getElem? (i := 80) rfl)) (hw _ (List.mem_of_getElem? (i := 7) rfl)) (by decide) (by decide)) q3a q3c (g := (mkF m 11 #[rv b, rv x] [(.ref x), (.int (0 : Int32))])) rfl (by rw [hml]; rfl) (Steps.refl _) (argsL := []) (rest := [(.int (0 : Int32))]) (lenOf pd_0 rfl) rfl (by show 2 * 0 + _ ≤ _; exact Nat.le_of_eq rfl) (hb hby d22_11) (fun _ _ => ⟨rfl, e2, (by decide : 0 + 0 ≤ _), (by decide : 0 + 0 ≤ _)⟩)
  dsimp only [Pt.U, Pt.locs, Pt.cells, Pt.slots] at X3 l3 y3 z3 st3 hQ3
  subst l3 y3 z3
  obtain ⟨rfl, N3q, e3⟩ := hQ3
  have N3 := Fr.app N0 N3q
  refine Ends.go (fun _ => st3.trans) ?_
  show Ends p.tables e below G (T3.setTop (mkF m 14 #[rv b, rv x] [(.int (0 : Int32)), (.int (0 : Int32))]))
  refine Ends.go (fun _ => XS.icmpYes X3.here hx rfl (pc0 := 14) (pc' := 21) rfl (hb hby d22_14) rfl (teq (rfl : (0 : Int32) = (0 : Int32))).1 (by decide) (by decide)) ?_
  show Ends p.tables e below G (T3.setTop (mkF m 21 #[rv b, rv x] []))
  refine own_finN X3 hx Bd.returns Bd.notSynchronized (hb hby d22_21) (Q := (Q22 Z b d zA zn x ds zs zc h0 n0)) hG (by decide) (by decide) ?_
  show (Q22 Z b d zA zn x ds zs zc h0 n0) _ T3.heap _
  rw [e3]
  exact ⟨rfl, N3, rfl⟩
theorem d23_0 : decode jdk_42_method_147_code 0 = .ok (.aload_n 0, 1) := by decide +kernel
theorem d23_1 : decode jdk_42_method_147_code 1 = .ok (.invokevirtual 335, 3) := by decide +kernel
theorem d23_4 : decode jdk_42_method_147_code 4 = .ok (.iload_n 3, 1) := by decide +kernel
theorem d23_5 : decode jdk_42_method_147_code 5 = .ok (.if_icmp .ne 23, 3) := by decide +kernel
theorem d23_8 : decode jdk_42_method_147_code 8 = .ok (.aload_n 0, 1) := by decide +kernel
theorem d23_9 : decode jdk_42_method_147_code 9 = .ok (.getfield 9, 3) := by decide +kernel
theorem d23_12 : decode jdk_42_method_147_code 12 = .ok (.iconst 0, 1) := by decide +kernel
theorem d23_13 : decode jdk_42_method_147_code 13 = .ok (.aload_n 1, 1) := by decide +kernel
theorem d23_14 : decode jdk_42_method_147_code 14 = .ok (.iload_n 2, 1) := by decide +kernel
theorem d23_15 : decode jdk_42_method_147_code 15 = .ok (.iload_n 3, 1) := by decide +kernel
theorem d23_16 : decode jdk_42_method_147_code 16 = .ok (.ishl, 1) := by decide +kernel
theorem d23_17 : decode jdk_42_method_147_code 17 = .ok (.aload_n 0, 1) := by decide +kernel
theorem d23_18 : decode jdk_42_method_147_code 18 = .ok (.getfield 9, 3) := by decide +kernel
theorem d23_21 : decode jdk_42_method_147_code 21 = .ok (.arraylength, 1) := by decide +kernel
theorem d23_22 : decode jdk_42_method_147_code 22 = .ok (.invokestatic 212, 3) := by decide +kernel
theorem d23_25 : decode jdk_42_method_147_code 25 = .ok (.goto 18, 3) := by decide +kernel
theorem d23_28 : decode jdk_42_method_147_code 28 = .ok (.aload_n 0, 1) := by decide +kernel
theorem d23_29 : decode jdk_42_method_147_code 29 = .ok (.getfield 9, 3) := by decide +kernel
theorem d23_32 : decode jdk_42_method_147_code 32 = .ok (.iconst 0, 1) := by decide +kernel
theorem d23_33 : decode jdk_42_method_147_code 33 = .ok (.aload_n 1, 1) := by decide +kernel
theorem d23_34 : decode jdk_42_method_147_code 34 = .ok (.iload_n 2, 1) := by decide +kernel
theorem d23_35 : decode jdk_42_method_147_code 35 = .ok (.aload_n 0, 1) := by decide +kernel
theorem d23_36 : decode jdk_42_method_147_code 36 = .ok (.getfield 9, 3) := by decide +kernel
theorem d23_39 : decode jdk_42_method_147_code 39 = .ok (.arraylength, 1) := by decide +kernel
theorem d23_40 : decode jdk_42_method_147_code 40 = .ok (.invokestatic 106, 3) := by decide +kernel
theorem d23_43 : decode jdk_42_method_147_code 43 = .ok (.return_, 1) := by decide +kernel
theorem pn_23 : plainName "java/lang/String" = true := by first | (simp [plainName, overriddenIn]; done) | decide +kernel
theorem ef_23 (m : MethodId) (x0 : Addr) (x1 : Addr) (x2 : Int32) (x3 : Int32) : entryFrame m #[(.ref x0), (.ref x1), (.int x2), (.int x3)] 4 = mkF m 0 #[rv x0, rv x1, iv x2, iv x3] [] := by first | (simp [entryFrame, mkF, argsToLocals, Value.category]; done) | rfl
def Q23 (Z : State) (x : Addr) (ds : Addr) (zs : Int32) (d : Addr) (zA : Int32) (zi : Int32) (A : Nat) (i_ : Nat) (k_ : Nat) (zc : Int32) (h0 : Heap) (n0 : Nat) (v : Option Value) (h : Heap) (L : List Loc) : Prop := v = none ∧ Fr n0 L ∧ Keep h0 h [d] ∧ BA Z h d zA
set_option maxRecDepth 65536 in
set_option maxHeartbeats 40000000 in
theorem rm23 (l : Launch) (Z : State) (a0 : Array Value) (hw : ∀ d ∈ tables_1, d.before a0 Z = true) (ws : List Jvm.Cond) (x : Addr) (ds : Addr) (zs : Int32) (d : Addr) (zA : Int32) (zi : Int32) (A : Nat) (i_ : Nat) (k_ : Nat) (zc : Int32) (h0 : Heap) (n0 : Nat) (Z0 : n0 ≤ h0.size) (O0 : Old Z n0 h0) (SC : Sta Z Z.heap "java/lang/String" "COMPACT_STRINGS" "Z" (.int zc)) (hzc : ¬ (zc = (0 : Int32))) (ST : STF Z h0 x ds zs) (BD : BA Z h0 d zA) (g_d : n0 ≤ d) (nexd : x ≠ d) (neds : ds ≠ d) (hA : zA.toInt = (A : Int)) (hi_ : zi.toInt = (i_ : Int)) (hs_ : zs.toInt = (k_ : Int)) (hik : i_ + k_ ≤ A) :
    MetFree l (⟨"java/lang/String", "getBytes", "([BIB)V"⟩ : MethodName) (head1 (Jvm.Cond.code (⟨"java/lang/String", "getBytes", "([BIB)V"⟩ : MethodName) jdk_42_method_147_code 4 none :: ws) ({ frames := 2, cells := 0, slots := 0, locals := 40 } : Room)) (fun a U => a = #[(.ref x), (.ref d), (.int zi), (.int (0 : Int32))] ∧ Z.Warmed39 U.vm ∧ U.heap = h0) (fun _ _ _ _ _ => True) (fun _ U o U' => ∃ v L, o = .returned v ∧ Q23 Z x ds zs d zA zi A i_ k_ zc h0 n0 v U'.heap L ∧ FrameEnd U o U' L ({ frames := 2, cells := 0, slots := 0, locals := 40 } : Room).cells ({ frames := 2, cells := 0, slots := 0, locals := 40 } : Room).slots) := by
  refine MetFree.of_bodySF (plainFor_of_name pn_23) hisR ?_
  intro p e s m args below meth c s₁ Bd hml0 hP hK
  obtain ⟨rfl, hZ, hh⟩ := hP
  have hx := Bd.exec
  have hby := Bd.bytes
  have hml : c.maxLocals = 4 := hml0
  have hown : s.vm.findClass "java/lang/String" = some m.cls := findClass_of_methodNamed Bd.named
  have hnm := (name_of_methodNamed Bd.named Bd.method).1
  have X0 : Stand p l e ({ frames := 2, cells := 0, slots := 0, locals := 40 } : Room) s m #[(.ref x), (.ref d), (.int zi), (.int (0 : Int32))] below meth c s₁ [] 0 0 := Stand.of_body Bd
  have e0 : s₁.heap = h0 := by rw [← hh, Bd.state]; rfl
  have N0 := Fr.nil n0
  show Ends p.tables e below (fun (s₂ : State) (o : Outcome) => ∃ v L, o = .returned v ∧ (Q23 Z x ds zs d zA zi A i_ k_ zc h0 n0) v s₂.heap L ∧ FrameEnd s o s₂ L ({ frames := 2, cells := 0, slots := 0, locals := 40 } : Room).cells ({ frames := 2, cells := 0, slots := 0, locals := 40 } : Room).slots) (s₁.setTop (entryFrame m #[(.ref x), (.ref d), (.int zi), (.int (0 : Int32))] 4))
  refine Ends.any fun G hG => ?_
  refine Ends.go (fun t k => castTop (ef_23 m x d zi (0 : Int32)) k) ?_
  show Ends p.tables e below G (s₁.setTop (mkF m 0 #[rv x, rv d, iv zi, iv (0 : Int32)] []))
  obtain ⟨Es_x, Fv_x, Fc_x, Bs_x⟩ := ST
  refine Ends.go (fun _ => XS.aloadN X0.here hx rfl (hb hby d23_0) rfl rfl) ?_
  show Ends p.tables e below G (s₁.setTop (mkF m 1 #[rv x, rv d, iv zi, iv (0 : Int32)] [(.ref x)]))
  obtain ⟨cq1, kq1, q1a, q1b, q1c⟩ := isOf hZ e0 Es_x
  obtain ⟨_, _, ⟨T1, L1, k1, n1⟩, -, X1, ⟨Lc1, hQ1, l1, y1, z1⟩, st1⟩ := X0.virtualBack hx (y := (⟨"java/lang/String", "coder", "()B"⟩ : MethodName)) (z := (⟨"java/lang/String", "coder", "()B"⟩ : MethodName)) hown (mvT hZ (hw _ (List.mem_of_getElem? (i := 76) rfl))) (mvT hZ (hw _ (List.mem_of_getElem? (i := 77) rfl))) (notFace_of_selects (args := #[]) (mvT hZ (hw _ (List.mem_of_getElem? (i := 79) rfl)))) (mvT hZ (hw _ (List.mem_of_getElem? (i := 79) rfl))) (mvT hZ (hw _ (List.mem_of_getElem? (i := 78) rfl))) (by decide) (backOf (W := 0) (rm14 l Z a0 hw [] x ds zs zc h0 n0 Z0 O0 SC hzc ⟨Es_x, Fv_x, Fc_x, Bs_x⟩) hZ (hw _ (List.mem_of_getElem? (i := 80) rfl)) (hw _ (List.mem_of_getElem? (i := 7) rfl)) (by decide) (by decide)) q1a q1c (g := (mkF m 1 #[rv x, rv d, iv zi, iv (0 : Int32)] [(.ref x)])) rfl (by rw [hml]; rfl) (Steps.refl _) (argsL := []) (rest := []) (lenOf pd_0 rfl) rfl (by show 2 * 0 + _ ≤ _; exact Nat.le_of_eq rfl) (hb hby d23_1) (fun _ _ => ⟨rfl, e0, (by decide : 0 + 0 ≤ _), (by decide : 0 + 0 ≤ _)⟩)
  dsimp only [Pt.U, Pt.locs, Pt.cells, Pt.slots] at X1 l1 y1 z1 st1 hQ1
  subst l1 y1 z1
  obtain ⟨rfl, N1q, e1⟩ := hQ1
  have N1 := Fr.app N0 N1q
  refine Ends.go (fun _ => st1.trans) ?_
  show Ends p.tables e below G (T1.setTop (mkF m 4 #[rv x, rv d, iv zi, iv (0 : Int32)] [(.int (0 : Int32))]))
  refine Ends.go (fun _ => XS.iloadN X1.here hx rfl (hb hby d23_4) rfl) ?_
  show Ends p.tables e below G (T1.setTop (mkF m 5 #[rv x, rv d, iv zi, iv (0 : Int32)] [(.int (0 : Int32)), (.int (0 : Int32))]))
  refine Ends.go (fun _ => XS.icmpNo X1.here hx rfl (hb hby d23_5) rfl (teq (rfl : (0 : Int32) = (0 : Int32))).2) ?_
  show Ends p.tables e below G (T1.setTop (mkF m 8 #[rv x, rv d, iv zi, iv (0 : Int32)] []))
  refine Ends.go (fun _ => XS.aloadN X1.here hx rfl (hb hby d23_8) rfl rfl) ?_
  show Ends p.tables e below G (T1.setTop (mkF m 9 #[rv x, rv d, iv zi, iv (0 : Int32)] [(.ref x)]))
  obtain ⟨T2, X2, e2, st2⟩ := getF X1 hx hZ hown (host := "") (Or.inl (hw _ (List.mem_of_getElem? (i := 32) rfl))) Via.refl e1 Fv_x (g := (mkF m 9 #[rv x, rv d, iv zi, iv (0 : Int32)] [(.ref x)])) rfl rfl (hb hby d23_9)
  refine Ends.go (fun _ => st2 _) ?_
  show Ends p.tables e below G (T2.setTop (mkF m 12 #[rv x, rv d, iv zi, iv (0 : Int32)] [(.ref ds)]))
  refine Ends.go (fun _ => XS.iconst X2.here hx rfl (hb hby d23_12)) ?_
  show Ends p.tables e below G (T2.setTop (mkF m 13 #[rv x, rv d, iv zi, iv (0 : Int32)] [(.int (0 : Int32)), (.ref ds)]))
  refine Ends.go (fun _ => XS.aloadN X2.here hx rfl (hb hby d23_13) rfl rfl) ?_
  show Ends p.tables e below G (T2.setTop (mkF m 14 #[rv x, rv d, iv zi, iv (0 : Int32)] [(.ref d), (.int (0 : Int32)), (.ref ds)]))
  refine Ends.go (fun _ => XS.iloadN X2.here hx rfl (hb hby d23_14) rfl) ?_
  show Ends p.tables e below G (T2.setTop (mkF m 15 #[rv x, rv d, iv zi, iv (0 : Int32)] [(.int zi), (.ref d), (.int (0 : Int32)), (.ref ds)]))
  refine Ends.go (fun _ => XS.iloadN X2.here hx rfl (hb hby d23_15) rfl) ?_
  show Ends p.tables e below G (T2.setTop (mkF m 16 #[rv x, rv d, iv zi, iv (0 : Int32)] [(.int (0 : Int32)), (.int zi), (.ref d), (.int (0 : Int32)), (.ref ds)]))
  refine Ends.go (fun _ => XS.ishl X2.here hx rfl (hb hby d23_16) rfl) ?_
  show Ends p.tables e below G (T2.setTop (mkF m 17 #[rv x, rv d, iv zi, iv (0 : Int32)] [(.int (zi <<< ((0 : Int32) &&& 31))), (.ref d), (.int (0 : Int32)), (.ref ds)]))
  rw [show (zi <<< ((0 : Int32) &&& 31)) = zi from own_shl0 zi]
  show Ends p.tables e below G (T2.setTop (mkF m 17 #[rv x, rv d, iv zi, iv (0 : Int32)] [(.int zi), (.ref d), (.int (0 : Int32)), (.ref ds)]))
  refine Ends.go (fun _ => XS.aloadN X2.here hx rfl (hb hby d23_17) rfl rfl) ?_
  show Ends p.tables e below G (T2.setTop (mkF m 18 #[rv x, rv d, iv zi, iv (0 : Int32)] [(.ref x), (.int zi), (.ref d), (.int (0 : Int32)), (.ref ds)]))
  obtain ⟨T3, X3, e3, st3⟩ := getF X2 hx hZ hown (host := "") (Or.inl (hw _ (List.mem_of_getElem? (i := 32) rfl))) Via.refl e2 Fv_x (g := (mkF m 18 #[rv x, rv d, iv zi, iv (0 : Int32)] [(.ref x), (.int zi), (.ref d), (.int (0 : Int32)), (.ref ds)])) rfl rfl (hb hby d23_18)
  refine Ends.go (fun _ => st3 _) ?_
  show Ends p.tables e below G (T3.setTop (mkF m 21 #[rv x, rv d, iv zi, iv (0 : Int32)] [(.ref ds), (.int zi), (.ref d), (.int (0 : Int32)), (.ref ds)]))
  refine Ends.go (fun _ => BA.len Bs_x X3 hx hZ e3 (g := (mkF m 21 #[rv x, rv d, iv zi, iv (0 : Int32)] [(.ref ds), (.int zi), (.ref d), (.int (0 : Int32)), (.ref ds)])) rfl rfl (hb hby d23_21) _) ?_
  show Ends p.tables e below G (T3.setTop (mkF m 22 #[rv x, rv d, iv zi, iv (0 : Int32)] [(.int zs), (.int zi), (.ref d), (.int (0 : Int32)), (.ref ds)]))
  obtain ⟨T4, h4, L4, X4, e4, N4, K4, V4, st4⟩ := BA.cp Bs_x BD X3 hx hZ hown (hw _ (List.mem_of_getElem? (i := 130) rfl)) (hw _ (List.mem_of_getElem? (i := 113) rfl)) (hw _ (List.mem_of_getElem? (i := 111) rfl)) (hw _ (List.mem_of_getElem? (i := 112) rfl)) e3 hs_ hA (sn := 0) rfl hi_ hs_ (by omega) (by omega) N1 g_d (g := (mkF m 22 #[rv x, rv d, iv zi, iv (0 : Int32)] [(.int zs), (.int zi), (.ref d), (.int (0 : Int32)), (.ref ds)])) rfl (by rw [hml]; rfl) rfl (hb hby d23_22) (by decide) (W := 0) (by show 2 * 0 + _ ≤ _; exact Nat.le_of_eq rfl) (by decide)
  have f4k_E_x := Exa.keep Es_x K4
  have f4k_F_x_value := Fld.keep Fv_x K4 (ninS nexd nin0)
  have f4k_F_x_coder := Fld.keep Fc_x K4 (ninS nexd nin0)
  have f4k_P_ds := BA.keep Bs_x K4 (ninS neds nin0)
  have sz4k := Nat.le_trans Z0 (K4).1
  have K4kz := Keep.trans (Keep.refl h0 [d]) K4 (allS (Or.inl (List.mem_of_getElem? (i := 0) rfl)) all0)
  have O4k := Old.keep O0 K4 (allS g_d all0)
  refine Ends.go (fun _ => st4 _) ?_
  show Ends p.tables e below G (T4.setTop (mkF m 25 #[rv x, rv d, iv zi, iv (0 : Int32)] []))
  refine Ends.go (fun _ => XS.goto X4.here hx rfl (pc0 := 25) (pc' := 43) rfl (hb hby d23_25) (by decide) (by decide)) ?_
  show Ends p.tables e below G (T4.setTop (mkF m 43 #[rv x, rv d, iv zi, iv (0 : Int32)] []))
  refine own_finN X4 hx Bd.returns Bd.notSynchronized (hb hby d23_43) (Q := (Q23 Z x ds zs d zA zi A i_ k_ zc h0 n0)) hG (by decide) (by decide) ?_
  show (Q23 Z x ds zs d zA zi A i_ k_ zc h0 n0) _ T4.heap _
  rw [e4]
  exact ⟨rfl, N4, K4kz, V4⟩
theorem d21_0 : decode jdk_68_method_73_code 0 = .ok (.aload_n 0, 1) := by decide +kernel
theorem d21_1 : decode jdk_68_method_73_code 1 = .ok (.aload_n 2, 1) := by decide +kernel
theorem d21_2 : decode jdk_68_method_73_code 2 = .ok (.invokevirtual 397, 3) := by decide +kernel
theorem pd_8 : parseMethodDescriptor "(Ljava/lang/String;)V" = some ⟨[(.object "java/lang/String")], none⟩ := by decide +kernel
theorem d21_5 : decode jdk_68_method_73_code 5 = .ok (.aload_n 2, 1) := by decide +kernel
theorem d21_6 : decode jdk_68_method_73_code 6 = .ok (.aload_n 0, 1) := by decide +kernel
theorem d21_7 : decode jdk_68_method_73_code 7 = .ok (.getfield 15, 3) := by decide +kernel
theorem d21_10 : decode jdk_68_method_73_code 10 = .ok (.iload_n 1, 1) := by decide +kernel
theorem d21_11 : decode jdk_68_method_73_code 11 = .ok (.aload_n 0, 1) := by decide +kernel
theorem d21_12 : decode jdk_68_method_73_code 12 = .ok (.getfield 22, 3) := by decide +kernel
theorem d21_15 : decode jdk_68_method_73_code 15 = .ok (.invokevirtual 399, 3) := by decide +kernel
theorem pd_9 : parseMethodDescriptor "([BIB)V" = some ⟨[(.array .byte), .int, .byte], none⟩ := by decide +kernel
theorem d21_18 : decode jdk_68_method_73_code 18 = .ok (.return_, 1) := by decide +kernel
theorem pn_21 : plainName "java/lang/AbstractStringBuilder" = true := by first | (simp [plainName, overriddenIn]; done) | decide +kernel
theorem ef_21 (m : MethodId) (x0 : Addr) (x1 : Int32) (x2 : Addr) : entryFrame m #[(.ref x0), (.int x1), (.ref x2)] 3 = mkF m 0 #[rv x0, iv x1, rv x2] [] := by first | (simp [entryFrame, mkF, argsToLocals, Value.category]; done) | rfl
def Q21 (Z : State) (b : Addr) (d : Addr) (zA : Int32) (zn : Int32) (x : Addr) (ds : Addr) (zs : Int32) (zi : Int32) (A : Nat) (i_ : Nat) (k_ : Nat) (zc : Int32) (h0 : Heap) (n0 : Nat) (v : Option Value) (h : Heap) (L : List Loc) : Prop := v = none ∧ Fr n0 L ∧ Keep h0 h [d] ∧ BA Z h d zA
set_option maxRecDepth 65536 in
set_option maxHeartbeats 40000000 in
theorem rm21 (l : Launch) (Z : State) (a0 : Array Value) (hw : ∀ d ∈ tables_1, d.before a0 Z = true) (ws : List Jvm.Cond) (b : Addr) (d : Addr) (zA : Int32) (zn : Int32) (x : Addr) (ds : Addr) (zs : Int32) (zi : Int32) (A : Nat) (i_ : Nat) (k_ : Nat) (zc : Int32) (h0 : Heap) (n0 : Nat) (Z0 : n0 ≤ h0.size) (O0 : Old Z n0 h0) (SC : Sta Z Z.heap "java/lang/String" "COMPACT_STRINGS" "Z" (.int zc)) (hzc : ¬ (zc = (0 : Int32))) (SB : SBF Z h0 b d zA zn) (ST : STF Z h0 x ds zs) (g_d : n0 ≤ d) (neds : ds ≠ d) (hA : zA.toInt = (A : Int)) (hi_ : zi.toInt = (i_ : Int)) (hs_ : zs.toInt = (k_ : Int)) (hik : i_ + k_ ≤ A) :
    MetFree l (⟨"java/lang/AbstractStringBuilder", "putStringAt", "(ILjava/lang/String;)V"⟩ : MethodName) (head1 (Jvm.Cond.code (⟨"java/lang/AbstractStringBuilder", "putStringAt", "(ILjava/lang/String;)V"⟩ : MethodName) jdk_68_method_73_code 3 none :: ws) ({ frames := 3, cells := 0, slots := 0, locals := 60 } : Room)) (fun a U => a = #[(.ref b), (.int zi), (.ref x)] ∧ Z.Warmed39 U.vm ∧ U.heap = h0) (fun _ _ _ _ _ => True) (fun _ U o U' => ∃ v L, o = .returned v ∧ Q21 Z b d zA zn x ds zs zi A i_ k_ zc h0 n0 v U'.heap L ∧ FrameEnd U o U' L ({ frames := 3, cells := 0, slots := 0, locals := 60 } : Room).cells ({ frames := 3, cells := 0, slots := 0, locals := 60 } : Room).slots) := by
  refine MetFree.of_bodySF (plainFor_of_name pn_21) hisR ?_
  intro p e s m args below meth c s₁ Bd hml0 hP hK
  obtain ⟨rfl, hZ, hh⟩ := hP
  have hx := Bd.exec
  have hby := Bd.bytes
  have hml : c.maxLocals = 3 := hml0
  have hown : s.vm.findClass "java/lang/AbstractStringBuilder" = some m.cls := findClass_of_methodNamed Bd.named
  have hnm := (name_of_methodNamed Bd.named Bd.method).1
  have X0 : Stand p l e ({ frames := 3, cells := 0, slots := 0, locals := 60 } : Room) s m #[(.ref b), (.int zi), (.ref x)] below meth c s₁ [] 0 0 := Stand.of_body Bd
  have e0 : s₁.heap = h0 := by rw [← hh, Bd.state]; rfl
  have N0 := Fr.nil n0
  show Ends p.tables e below (fun (s₂ : State) (o : Outcome) => ∃ v L, o = .returned v ∧ (Q21 Z b d zA zn x ds zs zi A i_ k_ zc h0 n0) v s₂.heap L ∧ FrameEnd s o s₂ L ({ frames := 3, cells := 0, slots := 0, locals := 60 } : Room).cells ({ frames := 3, cells := 0, slots := 0, locals := 60 } : Room).slots) (s₁.setTop (entryFrame m #[(.ref b), (.int zi), (.ref x)] 3))
  refine Ends.any fun G hG => ?_
  refine Ends.go (fun t k => castTop (ef_21 m b zi x) k) ?_
  show Ends p.tables e below G (s₁.setTop (mkF m 0 #[rv b, iv zi, rv x] []))
  obtain ⟨Eb_b, Fv_b, Fc_b, Fn_b, Ba_b, Ea_b⟩ := SB
  have ne_b_d : b ≠ d := Exa.ne Eb_b Ea_b (by decide)
  obtain ⟨Es_x, Fv_x, Fc_x, Bs_x⟩ := ST
  have ne_b_x : b ≠ x := Exa.ne Eb_b Es_x (by decide)
  have ne_x_d : x ≠ d := Exa.ne Es_x Ea_b (by decide)
  have ne_b_ds : b ≠ ds := own_neB Eb_b Bs_x (hw _ (List.mem_of_getElem? (i := 41) rfl))
  refine Ends.go (fun _ => XS.aloadN X0.here hx rfl (hb hby d21_0) rfl rfl) ?_
  show Ends p.tables e below G (s₁.setTop (mkF m 1 #[rv b, iv zi, rv x] [(.ref b)]))
  refine Ends.go (fun _ => XS.aloadN X0.here hx rfl (hb hby d21_1) rfl rfl) ?_
  show Ends p.tables e below G (s₁.setTop (mkF m 2 #[rv b, iv zi, rv x] [(.ref x), (.ref b)]))
  obtain ⟨cq1, q1, q1'⟩ := Eb_b.cell
  obtain ⟨_, _, ⟨T1, L1, k1, n1⟩, -, X1, ⟨Lc1, hQ1, l1, y1, z1⟩, st1⟩ := X0.privateBack hx (y := (⟨"java/lang/AbstractStringBuilder", "inflateIfNeededFor", "(Ljava/lang/String;)V"⟩ : MethodName)) hown (mvT hZ (hw _ (List.mem_of_getElem? (i := 119) rfl))) (mvT hZ (hw _ (List.mem_of_getElem? (i := 120) rfl))) (own_selC (a1 := #[]) (mvT hZ (hw _ (List.mem_of_getElem? (i := 122) rfl))) (Cond.privateMethod_at (mvP hZ (hw _ (List.mem_of_getElem? (i := 121) rfl)) (args := #[]))) (mvT hZ (hw _ (List.mem_of_getElem? (i := 120) rfl))) (by decide)) (Cond.privateMethod_at (mvP hZ (hw _ (List.mem_of_getElem? (i := 121) rfl)) (args := #[]))) (mvT hZ (hw _ (List.mem_of_getElem? (i := 123) rfl))) (by decide) (backOf (W := 0) (rm22 l Z a0 hw [] b d zA zn x ds zs zc h0 n0 Z0 O0 SC hzc ⟨Eb_b, Fv_b, Fc_b, Fn_b, Ba_b, Ea_b⟩ ⟨Es_x, Fv_x, Fc_x, Bs_x⟩) hZ (hw _ (List.mem_of_getElem? (i := 123) rfl)) (hw _ (List.mem_of_getElem? (i := 50) rfl)) (by decide) (by decide)) (g := (mkF m 2 #[rv b, iv zi, rv x] [(.ref x), (.ref b)])) rfl (by rw [hml]; rfl) (Steps.refl _) (a := b) (by rw [e0]; exact q1) q1' (argsL := [(.ref x)]) (rest := []) (lenOf pd_8 rfl) rfl (by show 2 * 0 + _ ≤ _; exact Nat.le_of_eq rfl) (hb hby d21_2) (fun _ _ => ⟨rfl, e0, (by decide : 0 + 0 ≤ _), (by decide : 0 + 0 ≤ _)⟩)
  dsimp only [Pt.U, Pt.locs, Pt.cells, Pt.slots] at X1 l1 y1 z1 st1 hQ1
  subst l1 y1 z1
  obtain ⟨rfl, N1q, e1⟩ := hQ1
  have N1 := Fr.app N0 N1q
  refine Ends.go (fun _ => st1.trans) ?_
  show Ends p.tables e below G (T1.setTop (mkF m 5 #[rv b, iv zi, rv x] []))
  refine Ends.go (fun _ => XS.aloadN X1.here hx rfl (hb hby d21_5) rfl rfl) ?_
  show Ends p.tables e below G (T1.setTop (mkF m 6 #[rv b, iv zi, rv x] [(.ref x)]))
  refine Ends.go (fun _ => XS.aloadN X1.here hx rfl (hb hby d21_6) rfl rfl) ?_
  show Ends p.tables e below G (T1.setTop (mkF m 7 #[rv b, iv zi, rv x] [(.ref b), (.ref x)]))
  obtain ⟨T2, X2, e2, st2⟩ := getF X1 hx hZ hown (host := "") (Or.inl (hw _ (List.mem_of_getElem? (i := 54) rfl))) Via.refl e1 Fv_b (g := (mkF m 7 #[rv b, iv zi, rv x] [(.ref b), (.ref x)])) rfl rfl (hb hby d21_7)
  refine Ends.go (fun _ => st2 _) ?_
  show Ends p.tables e below G (T2.setTop (mkF m 10 #[rv b, iv zi, rv x] [(.ref d), (.ref x)]))
  refine Ends.go (fun _ => XS.iloadN X2.here hx rfl (hb hby d21_10) rfl) ?_
  show Ends p.tables e below G (T2.setTop (mkF m 11 #[rv b, iv zi, rv x] [(.int zi), (.ref d), (.ref x)]))
  refine Ends.go (fun _ => XS.aloadN X2.here hx rfl (hb hby d21_11) rfl rfl) ?_
  show Ends p.tables e below G (T2.setTop (mkF m 12 #[rv b, iv zi, rv x] [(.ref b), (.int zi), (.ref d), (.ref x)]))
  obtain ⟨T3, X3, e3, st3⟩ := getF X2 hx hZ hown (host := "") (Or.inl (hw _ (List.mem_of_getElem? (i := 56) rfl))) Via.refl e2 Fc_b (g := (mkF m 12 #[rv b, iv zi, rv x] [(.ref b), (.int zi), (.ref d), (.ref x)])) rfl rfl (hb hby d21_12)
  refine Ends.go (fun _ => st3 _) ?_
  show Ends p.tables e below G (T3.setTop (mkF m 15 #[rv b, iv zi, rv x] [(.int (0 : Int32)), (.int zi), (.ref d), (.ref x)]))
  obtain ⟨cq4, kq4, q4a, q4b, q4c⟩ := isOf hZ e3 Es_x
  obtain ⟨_, _, ⟨T4, L4, k4, n4⟩, -, X4, ⟨Lc4, hQ4, l4, y4, z4⟩, st4⟩ := X3.virtualBack hx (y := (⟨"java/lang/String", "getBytes", "([BIB)V"⟩ : MethodName)) (z := (⟨"java/lang/String", "getBytes", "([BIB)V"⟩ : MethodName)) hown (mvT hZ (hw _ (List.mem_of_getElem? (i := 125) rfl))) (mvT hZ (hw _ (List.mem_of_getElem? (i := 126) rfl))) (notFace_of_selects (args := #[]) (mvT hZ (hw _ (List.mem_of_getElem? (i := 128) rfl)))) (mvT hZ (hw _ (List.mem_of_getElem? (i := 128) rfl))) (mvT hZ (hw _ (List.mem_of_getElem? (i := 127) rfl))) (by decide) (backOf (W := 0) (rm23 l Z a0 hw [] x ds zs d zA zi A i_ k_ zc h0 n0 Z0 O0 SC hzc ⟨Es_x, Fv_x, Fc_x, Bs_x⟩ Ba_b g_d ne_x_d neds hA hi_ hs_ hik) hZ (hw _ (List.mem_of_getElem? (i := 129) rfl)) (hw _ (List.mem_of_getElem? (i := 7) rfl)) (by decide) (by decide)) q4a q4c (g := (mkF m 15 #[rv b, iv zi, rv x] [(.int (0 : Int32)), (.int zi), (.ref d), (.ref x)])) rfl (by rw [hml]; rfl) (Steps.refl _) (argsL := [(.ref d), (.int zi), (.int (0 : Int32))]) (rest := []) (lenOf pd_9 rfl) rfl (by show 2 * 0 + _ ≤ _; exact Nat.le_of_eq rfl) (hb hby d21_15) (fun _ _ => ⟨rfl, e3, (by decide : (0 + 0) + 0 ≤ _), (by decide : (0 + 0) + 0 ≤ _)⟩)
  dsimp only [Pt.U, Pt.locs, Pt.cells, Pt.slots] at X4 l4 y4 z4 st4 hQ4
  subst l4 y4 z4
  obtain ⟨rfl, N4q, Kq4, Bq4⟩ := hQ4
  have N4 := Fr.app N1 N4q
  have f4_E_b := Exa.keep Eb_b Kq4
  have f4_F_b_value := Fld.keep Fv_b Kq4 (ninS ne_b_d nin0)
  have f4_F_b_coder := Fld.keep Fc_b Kq4 (ninS ne_b_d nin0)
  have f4_F_b_count := Fld.keep Fn_b Kq4 (ninS ne_b_d nin0)
  have f4_E_d := Exa.keep Ea_b Kq4
  have f4_E_x := Exa.keep Es_x Kq4
  have f4_F_x_value := Fld.keep Fv_x Kq4 (ninS ne_x_d nin0)
  have f4_F_x_coder := Fld.keep Fc_x Kq4 (ninS ne_x_d nin0)
  have f4_P_ds := BA.keep Bs_x Kq4 (ninS neds nin0)
  have sz4 := Nat.le_trans Z0 (Kq4).1
  have K4z := Keep.trans (Keep.refl h0 [d]) Kq4 (allS (Or.inl (List.mem_of_getElem? (i := 0) rfl)) all0)
  have O4 := Old.keep O0 Kq4 (allS g_d all0)
  refine Ends.go (fun _ => st4.trans) ?_
  show Ends p.tables e below G (T4.setTop (mkF m 18 #[rv b, iv zi, rv x] []))
  refine own_finN X4 hx Bd.returns Bd.notSynchronized (hb hby d21_18) (Q := (Q21 Z b d zA zn x ds zs zi A i_ k_ zc h0 n0)) hG (by decide) (by decide) ?_
  show (Q21 Z b d zA zn x ds zs zi A i_ k_ zc h0 n0) _ T4.heap _
  exact ⟨rfl, N4, K4z, Bq4⟩
theorem d12_0 : decode jdk_68_method_22_code 0 = .ok (.aload_n 1, 1) := by decide +kernel
theorem d12_1 : decode jdk_68_method_22_code 1 = .ok (.ifnonnull 8, 3) := by decide +kernel
theorem d12_4 : decode jdk_68_method_22_code 4 = .ok (.aload_n 0, 1) := by decide +kernel
theorem d12_5 : decode jdk_68_method_22_code 5 = .ok (.invokevirtual 204, 3) := by decide +kernel
theorem d12_8 : decode jdk_68_method_22_code 8 = .ok (.areturn, 1) := by decide +kernel
theorem d12_9 : decode jdk_68_method_22_code 9 = .ok (.aload_n 1, 1) := by decide +kernel
theorem d12_10 : decode jdk_68_method_22_code 10 = .ok (.invokevirtual 32, 3) := by decide +kernel
theorem d12_13 : decode jdk_68_method_22_code 13 = .ok (.istore_n 2, 1) := by decide +kernel
theorem d12_14 : decode jdk_68_method_22_code 14 = .ok (.aload_n 0, 1) := by decide +kernel
theorem d12_15 : decode jdk_68_method_22_code 15 = .ok (.aload_n 0, 1) := by decide +kernel
theorem d12_16 : decode jdk_68_method_22_code 16 = .ok (.getfield 79, 3) := by decide +kernel
theorem d12_19 : decode jdk_68_method_22_code 19 = .ok (.iload_n 2, 1) := by decide +kernel
theorem d12_20 : decode jdk_68_method_22_code 20 = .ok (.iadd, 1) := by decide +kernel
theorem d12_21 : decode jdk_68_method_22_code 21 = .ok (.invokevirtual 100, 3) := by decide +kernel
theorem pd_10 : parseMethodDescriptor "(I)V" = some ⟨[.int], none⟩ := by decide +kernel
theorem d12_24 : decode jdk_68_method_22_code 24 = .ok (.aload_n 0, 1) := by decide +kernel
theorem d12_25 : decode jdk_68_method_22_code 25 = .ok (.aload_n 0, 1) := by decide +kernel
theorem d12_26 : decode jdk_68_method_22_code 26 = .ok (.getfield 79, 3) := by decide +kernel
theorem d12_29 : decode jdk_68_method_22_code 29 = .ok (.aload_n 1, 1) := by decide +kernel
theorem d12_30 : decode jdk_68_method_22_code 30 = .ok (.invokevirtual 208, 3) := by decide +kernel
theorem pd_11 : parseMethodDescriptor "(ILjava/lang/String;)V" = some ⟨[.int, (.object "java/lang/String")], none⟩ := by decide +kernel
theorem d12_33 : decode jdk_68_method_22_code 33 = .ok (.aload_n 0, 1) := by decide +kernel
theorem d12_34 : decode jdk_68_method_22_code 34 = .ok (.dup, 1) := by decide +kernel
theorem d12_35 : decode jdk_68_method_22_code 35 = .ok (.getfield 79, 3) := by decide +kernel
theorem d12_38 : decode jdk_68_method_22_code 38 = .ok (.iload_n 2, 1) := by decide +kernel
theorem d12_39 : decode jdk_68_method_22_code 39 = .ok (.iadd, 1) := by decide +kernel
theorem d12_40 : decode jdk_68_method_22_code 40 = .ok (.putfield 79, 3) := by decide +kernel
theorem d12_43 : decode jdk_68_method_22_code 43 = .ok (.aload_n 0, 1) := by decide +kernel
theorem d12_44 : decode jdk_68_method_22_code 44 = .ok (.areturn, 1) := by decide +kernel
theorem pn_12 : plainName "java/lang/AbstractStringBuilder" = true := by first | (simp [plainName, overriddenIn]; done) | decide +kernel
theorem ef_12 (m : MethodId) (x0 : Addr) (x1 : Addr) : entryFrame m #[(.ref x0), (.ref x1)] 3 = mkF m 0 #[rv x0, rv x1, un] [] := by first | (simp [entryFrame, mkF, argsToLocals, Value.category]; done) | rfl
def Q12 (Z : State) (b : Addr) (d : Addr) (zA : Int32) (zn : Int32) (x : Addr) (ds : Addr) (zs : Int32) (A : Nat) (n_ : Nat) (k_ : Nat) (zc : Int32) (h0 : Heap) (n0 : Nat) (v : Option Value) (h : Heap) (L : List Loc) : Prop := ∃ (d' : Addr) (zA' : Int32) (A' : Nat) (zn' : Int32), v = some (.ref b) ∧ Fr n0 L ∧ Keep h0 h [b, d] ∧ SBF Z h b d' zA' zn' ∧ zA'.toInt = (A' : Int) ∧ zn'.toInt = ((n_ + k_ : Nat) : Int) ∧ n0 ≤ d' ∧ (((n_ + k_) ≤ A ∧ A' = A ∧ d' = d) ∨ (A < (n_ + k_) ∧ h0.size ≤ d' ∧ ∃ k, A' = A + k ∧ (n_ + k_) - A ≤ k ∧ A + 2 ≤ k ∧ (k = (n_ + k_) - A ∨ k = A + 2)))
set_option maxRecDepth 65536 in
set_option maxHeartbeats 40000000 in
theorem rm12 (l : Launch) (Z : State) (a0 : Array Value) (hw : ∀ d ∈ tables_1, d.before a0 Z = true) (ws : List Jvm.Cond) (b : Addr) (d : Addr) (zA : Int32) (zn : Int32) (x : Addr) (ds : Addr) (zs : Int32) (A : Nat) (n_ : Nat) (k_ : Nat) (zc : Int32) (h0 : Heap) (n0 : Nat) (Z0 : n0 ≤ h0.size) (O0 : Old Z n0 h0) (SC : Sta Z Z.heap "java/lang/String" "COMPACT_STRINGS" "Z" (.int zc)) (hzc : ¬ (zc = (0 : Int32))) (SB : SBF Z h0 b d zA zn) (ST : STF Z h0 x ds zs) (g_b : n0 ≤ b) (g_d : n0 ≤ d) (neds : ds ≠ d) (BS0 : BA Z h0 ds zs) (hA : zA.toInt = (A : Int)) (hn_ : zn.toInt = (n_ : Int)) (hs_ : zs.toInt = (k_ : Int)) (hbd : n_ ≤ A ∧ A ≤ 100 ∧ k_ ≤ 30) :
    MetFree l (⟨"java/lang/AbstractStringBuilder", "append", "(Ljava/lang/String;)Ljava/lang/AbstractStringBuilder;"⟩ : MethodName) (head1 (Jvm.Cond.code (⟨"java/lang/AbstractStringBuilder", "append", "(Ljava/lang/String;)Ljava/lang/AbstractStringBuilder;"⟩ : MethodName) jdk_68_method_22_code 3 (some (.object "java/lang/AbstractStringBuilder")) :: ws) ({ frames := 5, cells := 1, slots := 400, locals := 100 } : Room)) (fun a U => a = #[(.ref b), (.ref x)] ∧ Z.Warmed39 U.vm ∧ U.heap = h0) (fun _ _ _ _ _ => True) (fun _ U o U' => ∃ v L, o = .returned v ∧ Q12 Z b d zA zn x ds zs A n_ k_ zc h0 n0 v U'.heap L ∧ FrameEnd U o U' L ({ frames := 5, cells := 1, slots := 400, locals := 100 } : Room).cells ({ frames := 5, cells := 1, slots := 400, locals := 100 } : Room).slots) := by
  refine MetFree.of_bodySF (plainFor_of_name pn_12) hisR ?_
  intro p e s m args below meth c s₁ Bd hml0 hP hK
  obtain ⟨rfl, hZ, hh⟩ := hP
  have hx := Bd.exec
  have hby := Bd.bytes
  have hml : c.maxLocals = 3 := hml0
  have hown : s.vm.findClass "java/lang/AbstractStringBuilder" = some m.cls := findClass_of_methodNamed Bd.named
  have hnm := (name_of_methodNamed Bd.named Bd.method).1
  have X0 : Stand p l e ({ frames := 5, cells := 1, slots := 400, locals := 100 } : Room) s m #[(.ref b), (.ref x)] below meth c s₁ [] 0 0 := Stand.of_body Bd
  have e0 : s₁.heap = h0 := by rw [← hh, Bd.state]; rfl
  have N0 := Fr.nil n0
  show Ends p.tables e below (fun (s₂ : State) (o : Outcome) => ∃ v L, o = .returned v ∧ (Q12 Z b d zA zn x ds zs A n_ k_ zc h0 n0) v s₂.heap L ∧ FrameEnd s o s₂ L ({ frames := 5, cells := 1, slots := 400, locals := 100 } : Room).cells ({ frames := 5, cells := 1, slots := 400, locals := 100 } : Room).slots) (s₁.setTop (entryFrame m #[(.ref b), (.ref x)] 3))
  refine Ends.any fun G hG => ?_
  refine Ends.go (fun t k => castTop (ef_12 m b x) k) ?_
  show Ends p.tables e below G (s₁.setTop (mkF m 0 #[rv b, rv x, un] []))
  obtain ⟨Eb_b, Fv_b, Fc_b, Fn_b, Ba_b, Ea_b⟩ := SB
  have ne_b_d : b ≠ d := Exa.ne Eb_b Ea_b (by decide)
  obtain ⟨Es_x, Fv_x, Fc_x, Bs_x⟩ := ST
  have ne_b_x : b ≠ x := Exa.ne Eb_b Es_x (by decide)
  have ne_x_d : x ≠ d := Exa.ne Es_x Ea_b (by decide)
  have ne_b_ds : b ≠ ds := own_neB Eb_b Bs_x (hw _ (List.mem_of_getElem? (i := 41) rfl))
  refine Ends.go (fun _ => XS.aloadN X0.here hx rfl (hb hby d12_0) rfl rfl) ?_
  show Ends p.tables e below G (s₁.setTop (mkF m 1 #[rv b, rv x, un] [(.ref x)]))
  refine Ends.go (fun _ => XT.ifnonnullYes X0.here hx rfl (pc0 := 1) (pc' := 9) rfl (hb hby d12_1) rfl (by decide) (by decide)) ?_
  show Ends p.tables e below G (s₁.setTop (mkF m 9 #[rv b, rv x, un] []))
  refine Ends.go (fun _ => XS.aloadN X0.here hx rfl (hb hby d12_9) rfl rfl) ?_
  show Ends p.tables e below G (s₁.setTop (mkF m 10 #[rv b, rv x, un] [(.ref x)]))
  obtain ⟨cq1, kq1, q1a, q1b, q1c⟩ := isOf hZ e0 Es_x
  obtain ⟨_, _, ⟨T1, L1, k1, n1⟩, -, X1, ⟨Lc1, hQ1, l1, y1, z1⟩, st1⟩ := X0.virtualBack hx (y := (⟨"java/lang/String", "length", "()I"⟩ : MethodName)) (z := (⟨"java/lang/String", "length", "()I"⟩ : MethodName)) hown (mvT hZ (hw _ (List.mem_of_getElem? (i := 71) rfl))) (mvT hZ (hw _ (List.mem_of_getElem? (i := 72) rfl))) (notFace_of_selects (args := #[]) (mvT hZ (hw _ (List.mem_of_getElem? (i := 74) rfl)))) (mvT hZ (hw _ (List.mem_of_getElem? (i := 74) rfl))) (mvT hZ (hw _ (List.mem_of_getElem? (i := 73) rfl))) (by decide) (backOf (W := 0) (rm13 l Z a0 hw [] x ds zs zc h0 n0 Z0 O0 SC hzc ⟨Es_x, Fv_x, Fc_x, Bs_x⟩) hZ (hw _ (List.mem_of_getElem? (i := 75) rfl)) (hw _ (List.mem_of_getElem? (i := 7) rfl)) (by decide) (by decide)) q1a q1c (g := (mkF m 10 #[rv b, rv x, un] [(.ref x)])) rfl (by rw [hml]; rfl) (Steps.refl _) (argsL := []) (rest := []) (lenOf pd_1 rfl) rfl (by show 2 * 0 + _ ≤ _; exact Nat.le_of_eq rfl) (hb hby d12_10) (fun _ _ => ⟨rfl, e0, (by decide : 0 + 0 ≤ _), (by decide : 0 + 0 ≤ _)⟩)
  dsimp only [Pt.U, Pt.locs, Pt.cells, Pt.slots] at X1 l1 y1 z1 st1 hQ1
  subst l1 y1 z1
  obtain ⟨rfl, N1q, e1⟩ := hQ1
  have N1 := Fr.app N0 N1q
  refine Ends.go (fun _ => st1.trans) ?_
  show Ends p.tables e below G (T1.setTop (mkF m 13 #[rv b, rv x, un] [(.int zs)]))
  refine Ends.go (fun _ => XS.istoreN (g := (mkF m 13 #[rv b, rv x, un] [(.int zs)])) X1.here hx rfl (hb hby d12_13) rfl (l' := #[rv b, rv x, iv zs]) rfl) ?_
  show Ends p.tables e below G (T1.setTop (mkF m 14 #[rv b, rv x, iv zs] []))
  refine Ends.go (fun _ => XS.aloadN X1.here hx rfl (hb hby d12_14) rfl rfl) ?_
  show Ends p.tables e below G (T1.setTop (mkF m 15 #[rv b, rv x, iv zs] [(.ref b)]))
  refine Ends.go (fun _ => XS.aloadN X1.here hx rfl (hb hby d12_15) rfl rfl) ?_
  show Ends p.tables e below G (T1.setTop (mkF m 16 #[rv b, rv x, iv zs] [(.ref b), (.ref b)]))
  obtain ⟨T2, X2, e2, st2⟩ := getF X1 hx hZ hown (host := "") (Or.inl (hw _ (List.mem_of_getElem? (i := 81) rfl))) Via.refl e1 Fn_b (g := (mkF m 16 #[rv b, rv x, iv zs] [(.ref b), (.ref b)])) rfl rfl (hb hby d12_16)
  refine Ends.go (fun _ => st2 _) ?_
  show Ends p.tables e below G (T2.setTop (mkF m 19 #[rv b, rv x, iv zs] [(.int zn), (.ref b)]))
  refine Ends.go (fun _ => XS.iloadN X2.here hx rfl (hb hby d12_19) rfl) ?_
  show Ends p.tables e below G (T2.setTop (mkF m 20 #[rv b, rv x, iv zs] [(.int zs), (.int zn), (.ref b)]))
  refine Ends.go (fun _ => XS.iadd X2.here hx rfl (hb hby d12_20) rfl) ?_
  show Ends p.tables e below G (T2.setTop (mkF m 21 #[rv b, rv x, iv zs] [(.int (zn + zs)), (.ref b)]))
  have hnk : (zn + zs).toInt = ((n_ + k_ : Nat) : Int) := own_add hn_ hs_ (by omega)
  obtain ⟨cq3, q3, q3'⟩ := Eb_b.cell
  obtain ⟨_, _, ⟨T3, L3, k3, n3⟩, -, X3, ⟨Lc3, hQ3, l3, y3, z3⟩, st3⟩ := X2.privateBack hx (y := (⟨"java/lang/AbstractStringBuilder", "ensureCapacityInternal", "(I)V"⟩ : MethodName)) hown (mvT hZ (hw _ (List.mem_of_getElem? (i := 83) rfl))) (mvT hZ (hw _ (List.mem_of_getElem? (i := 84) rfl))) (own_selC (a1 := #[]) (mvT hZ (hw _ (List.mem_of_getElem? (i := 86) rfl))) (Cond.privateMethod_at (mvP hZ (hw _ (List.mem_of_getElem? (i := 85) rfl)) (args := #[]))) (mvT hZ (hw _ (List.mem_of_getElem? (i := 84) rfl))) (by decide)) (Cond.privateMethod_at (mvP hZ (hw _ (List.mem_of_getElem? (i := 85) rfl)) (args := #[]))) (mvT hZ (hw _ (List.mem_of_getElem? (i := 87) rfl))) (by decide) (backOf (W := 0) (rm15 l Z a0 hw [] b d zA zn (zn + zs) A (n_ + k_) zc h0 n0 Z0 O0 SC hzc ⟨Eb_b, Fv_b, Fc_b, Fn_b, Ba_b, Ea_b⟩ g_b g_d hA hnk (by omega) (by omega)) hZ (hw _ (List.mem_of_getElem? (i := 87) rfl)) (hw _ (List.mem_of_getElem? (i := 50) rfl)) (by decide) (by decide)) (g := (mkF m 21 #[rv b, rv x, iv zs] [(.int (zn + zs)), (.ref b)])) rfl (by rw [hml]; rfl) (Steps.refl _) (a := b) (by rw [e2]; exact q3) q3' (argsL := [(.int (zn + zs))]) (rest := []) (lenOf pd_10 rfl) rfl (by show 2 * 0 + _ ≤ _; exact Nat.le_of_eq rfl) (hb hby d12_21) (fun _ _ => ⟨rfl, e2, (by decide : (0 + 0) + 1 ≤ _), (by decide : (0 + 0) + 400 ≤ _)⟩)
  dsimp only [Pt.U, Pt.locs, Pt.cells, Pt.slots] at X3 l3 y3 z3 st3 hQ3
  subst l3 y3 z3
  obtain ⟨dn3, za3, an3, rfl, N3q, Kq3, Sq3, hz3, gq3, hg3⟩ := hQ3
  have N3 := Fr.app N1 N3q
  have f3_E_b := Exa.keep Eb_b Kq3
  have f3_P_d := BA.keep Ba_b Kq3 (ninS (Ne.symm ne_b_d) nin0)
  have f3_E_d := Exa.keep Ea_b Kq3
  have f3_E_x := Exa.keep Es_x Kq3
  have f3_F_x_value := Fld.keep Fv_x Kq3 (ninS (Ne.symm ne_b_x) nin0)
  have f3_F_x_coder := Fld.keep Fc_x Kq3 (ninS (Ne.symm ne_b_x) nin0)
  have f3_P_ds := BA.keep Bs_x Kq3 (ninS (Ne.symm ne_b_ds) nin0)
  have sz3 := Nat.le_trans Z0 (Kq3).1
  have K3z := Keep.trans (Keep.refl h0 [b, d]) Kq3 (allS (Or.inl (List.mem_of_getElem? (i := 0) rfl)) all0)
  have O3 := Old.keep O0 Kq3 (allS g_b all0)
  obtain ⟨Ee3, Fe3, Ge3, He3, Be3, Ze3⟩ := Sq3
  have ne_b_dn3 : b ≠ dn3 := Exa.ne Ee3 Ze3 (by decide)
  refine Ends.go (fun _ => st3.trans) ?_
  show Ends p.tables e below G (T3.setTop (mkF m 24 #[rv b, rv x, iv zs] []))
  have hcap3 : n_ + k_ ≤ an3 := by rcases hg3 with ⟨q1, q2, -⟩ | ⟨q1, -, kk, q3, q4, -⟩ <;> omega
  have ne_x_dn3 : x ≠ dn3 := Exa.ne f3_E_x Ze3 (by decide)
  have ne_ds_dn3 : ds ≠ dn3 := by
    rcases hg3 with ⟨-, -, q3⟩ | ⟨-, q2, -⟩
    · rw [q3]; exact neds
    · exact Nat.ne_of_lt (Nat.lt_of_lt_of_le (BA.lt BS0) q2)
  have ko_dn3 : dn3 ∈ ([b, d] : List Addr) ∨ h0.size ≤ dn3 := by
    rcases hg3 with ⟨-, -, q3⟩ | ⟨-, q2, -⟩
    · left; rw [q3]; simp
    · exact Or.inr q2
  refine Ends.go (fun _ => XS.aloadN X3.here hx rfl (hb hby d12_24) rfl rfl) ?_
  show Ends p.tables e below G (T3.setTop (mkF m 25 #[rv b, rv x, iv zs] [(.ref b)]))
  refine Ends.go (fun _ => XS.aloadN X3.here hx rfl (hb hby d12_25) rfl rfl) ?_
  show Ends p.tables e below G (T3.setTop (mkF m 26 #[rv b, rv x, iv zs] [(.ref b), (.ref b)]))
  obtain ⟨T4, X4, e4, st4⟩ := getF X3 hx hZ hown (host := "") (Or.inl (hw _ (List.mem_of_getElem? (i := 81) rfl))) Via.refl rfl He3 (g := (mkF m 26 #[rv b, rv x, iv zs] [(.ref b), (.ref b)])) rfl rfl (hb hby d12_26)
  refine Ends.go (fun _ => st4 _) ?_
  show Ends p.tables e below G (T4.setTop (mkF m 29 #[rv b, rv x, iv zs] [(.int zn), (.ref b)]))
  refine Ends.go (fun _ => XS.aloadN X4.here hx rfl (hb hby d12_29) rfl rfl) ?_
  show Ends p.tables e below G (T4.setTop (mkF m 30 #[rv b, rv x, iv zs] [(.ref x), (.int zn), (.ref b)]))
  obtain ⟨cq5, q5, q5'⟩ := Ee3.cell
  obtain ⟨_, _, ⟨T5, L5, k5, n5⟩, -, X5, ⟨Lc5, hQ5, l5, y5, z5⟩, st5⟩ := X4.privateBack hx (y := (⟨"java/lang/AbstractStringBuilder", "putStringAt", "(ILjava/lang/String;)V"⟩ : MethodName)) hown (mvT hZ (hw _ (List.mem_of_getElem? (i := 114) rfl))) (mvT hZ (hw _ (List.mem_of_getElem? (i := 115) rfl))) (own_selC (a1 := #[]) (mvT hZ (hw _ (List.mem_of_getElem? (i := 117) rfl))) (Cond.privateMethod_at (mvP hZ (hw _ (List.mem_of_getElem? (i := 116) rfl)) (args := #[]))) (mvT hZ (hw _ (List.mem_of_getElem? (i := 115) rfl))) (by decide)) (Cond.privateMethod_at (mvP hZ (hw _ (List.mem_of_getElem? (i := 116) rfl)) (args := #[]))) (mvT hZ (hw _ (List.mem_of_getElem? (i := 118) rfl))) (by decide) (backOf (W := 0) (rm21 l Z a0 hw [] b dn3 za3 zn x ds zs zn an3 n_ k_ zc T3.heap n0 sz3 O3 SC hzc ⟨Ee3, Fe3, Ge3, He3, Be3, Ze3⟩ ⟨f3_E_x, f3_F_x_value, f3_F_x_coder, f3_P_ds⟩ gq3 ne_ds_dn3 hz3 hn_ hs_ hcap3) hZ (hw _ (List.mem_of_getElem? (i := 118) rfl)) (hw _ (List.mem_of_getElem? (i := 50) rfl)) (by decide) (by decide)) (g := (mkF m 30 #[rv b, rv x, iv zs] [(.ref x), (.int zn), (.ref b)])) rfl (by rw [hml]; rfl) (Steps.refl _) (a := b) (by rw [e4]; exact q5) q5' (argsL := [(.int zn), (.ref x)]) (rest := []) (lenOf pd_11 rfl) rfl (by show 2 * 0 + _ ≤ _; exact Nat.le_of_eq rfl) (hb hby d12_30) (fun _ _ => ⟨rfl, e4, (by decide : ((0 + 0) + 1) + 0 ≤ _), (by decide : ((0 + 0) + 400) + 0 ≤ _)⟩)
  dsimp only [Pt.U, Pt.locs, Pt.cells, Pt.slots] at X5 l5 y5 z5 st5 hQ5
  subst l5 y5 z5
  obtain ⟨rfl, N5q, Kq5, Bq5⟩ := hQ5
  have N5 := Fr.app N3 N5q
  have f5_E_b := Exa.keep Ee3 Kq5
  have f5_E_x := Exa.keep f3_E_x Kq5
  have f5_F_x_value := Fld.keep f3_F_x_value Kq5 (ninS ne_x_dn3 nin0)
  have f5_F_x_coder := Fld.keep f3_F_x_coder Kq5 (ninS ne_x_dn3 nin0)
  have f5_P_ds := BA.keep f3_P_ds Kq5 (ninS ne_ds_dn3 nin0)
  have f5_F_b_value := Fld.keep Fe3 Kq5 (ninS ne_b_dn3 nin0)
  have f5_F_b_coder := Fld.keep Ge3 Kq5 (ninS ne_b_dn3 nin0)
  have f5_F_b_count := Fld.keep He3 Kq5 (ninS ne_b_dn3 nin0)
  have f5_E_dn3 := Exa.keep Ze3 Kq5
  have sz5 := Nat.le_trans sz3 (Kq5).1
  have K5z := Keep.trans K3z Kq5 (allS ko_dn3 all0)
  have O5 := Old.keep O3 Kq5 (allS gq3 all0)
  refine Ends.go (fun _ => st5.trans) ?_
  show Ends p.tables e below G (T5.setTop (mkF m 33 #[rv b, rv x, iv zs] []))
  refine Ends.go (fun _ => XS.aloadN X5.here hx rfl (hb hby d12_33) rfl rfl) ?_
  show Ends p.tables e below G (T5.setTop (mkF m 34 #[rv b, rv x, iv zs] [(.ref b)]))
  refine Ends.go (fun _ => XS.dup X5.here hx rfl (hb hby d12_34) rfl rfl) ?_
  show Ends p.tables e below G (T5.setTop (mkF m 35 #[rv b, rv x, iv zs] [(.ref b), (.ref b)]))
  obtain ⟨T6, X6, e6, st6⟩ := getF X5 hx hZ hown (host := "") (Or.inl (hw _ (List.mem_of_getElem? (i := 81) rfl))) Via.refl rfl f5_F_b_count (g := (mkF m 35 #[rv b, rv x, iv zs] [(.ref b), (.ref b)])) rfl rfl (hb hby d12_35)
  refine Ends.go (fun _ => st6 _) ?_
  show Ends p.tables e below G (T6.setTop (mkF m 38 #[rv b, rv x, iv zs] [(.int zn), (.ref b)]))
  refine Ends.go (fun _ => XS.iloadN X6.here hx rfl (hb hby d12_38) rfl) ?_
  show Ends p.tables e below G (T6.setTop (mkF m 39 #[rv b, rv x, iv zs] [(.int zs), (.int zn), (.ref b)]))
  refine Ends.go (fun _ => XS.iadd X6.here hx rfl (hb hby d12_39) rfl) ?_
  show Ends p.tables e below G (T6.setTop (mkF m 40 #[rv b, rv x, iv zs] [(.int (zn + zs)), (.ref b)]))
  obtain ⟨T7, h7, X7, e7, W7, st7⟩ := putF X6 hx hZ hown (host := "") (Or.inl (hw _ (List.mem_of_getElem? (i := 81) rfl))) Via.refl e6 f5_F_b_count f5_E_b (Or.inl (hw _ (List.mem_of_getElem? (i := 82) rfl))) (hw _ (List.mem_of_getElem? (i := 41) rfl)) (ty := .int) (by decide) rfl rfl (g := (mkF m 40 #[rv b, rv x, iv zs] [(.int (zn + zs)), (.ref b)])) rfl rfl (hb hby d12_40)
  have f7_E_b := f5_E_b.wr W7
  have f7_E_x := f5_E_x.wr W7
  have f7_F_x_value := f5_F_x_value.other W7 (Or.inl (Ne.symm ne_b_x))
  have f7_F_x_coder := f5_F_x_coder.other W7 (Or.inl (Ne.symm ne_b_x))
  have f7_F_b_value := f5_F_b_value.other W7 (Or.inr (slot_ne (Or.inl (hw _ (List.mem_of_getElem? (i := 55) rfl))) (Or.inl (hw _ (List.mem_of_getElem? (i := 82) rfl))) (by decide) (t := (.array .byte)) (t' := .int) (by decide) (by decide)))
  have f7_F_b_coder := f5_F_b_coder.other W7 (Or.inr (slot_ne (Or.inl (hw _ (List.mem_of_getElem? (i := 57) rfl))) (Or.inl (hw _ (List.mem_of_getElem? (i := 82) rfl))) (by decide) (t := .byte) (t' := .int) (by decide) (by decide)))
  have f7_F_b_count := f5_F_b_count.same W7
  have f7_E_dn3 := f5_E_dn3.wr W7
  have sz7 := Nat.le_trans sz5 (Nat.le_of_eq W7.size.symm)
  have K7 := Keep.wr K5z W7 (Or.inl (List.mem_of_getElem? (i := 0) rfl))
  have N7 := Fr.snoc X7 N5 g_b
  have f7_P_ds := BA.other f5_P_ds W7 (Ne.symm ne_b_ds)
  have f7_P_dn3 := BA.other Bq5 W7 (Ne.symm ne_b_dn3)
  have O7 := Old.wr O5 W7 g_b
  refine Ends.go (fun _ => st7 _) ?_
  show Ends p.tables e below G (T7.setTop (mkF m 43 #[rv b, rv x, iv zs] []))
  refine Ends.go (fun _ => XS.aloadN X7.here hx rfl (hb hby d12_43) rfl rfl) ?_
  show Ends p.tables e below G (T7.setTop (mkF m 44 #[rv b, rv x, iv zs] [(.ref b)]))
  refine own_finR X7 hx Bd.returns rfl Bd.notSynchronized (hb hby d12_44) (Q := (Q12 Z b d zA zn x ds zs A n_ k_ zc h0 n0)) hG (by decide) (by decide) ?_
  show (Q12 Z b d zA zn x ds zs A n_ k_ zc h0 n0) _ T7.heap _
  rw [e7]
  exact ⟨dn3, za3, an3, (zn + zs), rfl, N7, K7, ⟨f7_E_b, f7_F_b_value, f7_F_b_coder, f7_F_b_count, f7_P_dn3, f7_E_dn3⟩, hz3, hnk, gq3, hg3⟩
theorem d11_0 : decode jdk_67_method_7_code 0 = .ok (.aload_n 0, 1) := by decide +kernel
theorem d11_1 : decode jdk_67_method_7_code 1 = .ok (.aload_n 1, 1) := by decide +kernel
theorem d11_2 : decode jdk_67_method_7_code 2 = .ok (.invokespecial 29, 3) := by decide +kernel
theorem pd_12 : parseMethodDescriptor "(Ljava/lang/String;)Ljava/lang/AbstractStringBuilder;" = some ⟨[(.object "java/lang/String")], some (.object "java/lang/AbstractStringBuilder")⟩ := by decide +kernel
theorem d11_5 : decode jdk_67_method_7_code 5 = .ok (.pop, 1) := by decide +kernel
theorem d11_6 : decode jdk_67_method_7_code 6 = .ok (.aload_n 0, 1) := by decide +kernel
theorem d11_7 : decode jdk_67_method_7_code 7 = .ok (.areturn, 1) := by decide +kernel
theorem pn_11 : plainName "java/lang/StringBuilder" = true := by first | (simp [plainName, overriddenIn]; done) | decide +kernel
theorem ef_11 (m : MethodId) (x0 : Addr) (x1 : Addr) : entryFrame m #[(.ref x0), (.ref x1)] 2 = mkF m 0 #[rv x0, rv x1] [] := by first | (simp [entryFrame, mkF, argsToLocals, Value.category]; done) | rfl
def Q11 (Z : State) (b : Addr) (d : Addr) (zA : Int32) (zn : Int32) (x : Addr) (ds : Addr) (zs : Int32) (A : Nat) (n_ : Nat) (k_ : Nat) (zc : Int32) (h0 : Heap) (n0 : Nat) (v : Option Value) (h : Heap) (L : List Loc) : Prop := ∃ (d' : Addr) (zA' : Int32) (A' : Nat) (zn' : Int32), v = some (.ref b) ∧ Fr n0 L ∧ Keep h0 h [b, d] ∧ SBF Z h b d' zA' zn' ∧ zA'.toInt = (A' : Int) ∧ zn'.toInt = ((n_ + k_ : Nat) : Int) ∧ n0 ≤ d' ∧ (((n_ + k_) ≤ A ∧ A' = A ∧ d' = d) ∨ (A < (n_ + k_) ∧ h0.size ≤ d' ∧ ∃ k, A' = A + k ∧ (n_ + k_) - A ≤ k ∧ A + 2 ≤ k ∧ (k = (n_ + k_) - A ∨ k = A + 2)))
set_option maxRecDepth 65536 in
set_option maxHeartbeats 40000000 in
theorem rm11 (l : Launch) (Z : State) (a0 : Array Value) (hw : ∀ d ∈ tables_1, d.before a0 Z = true) (ws : List Jvm.Cond) (b : Addr) (d : Addr) (zA : Int32) (zn : Int32) (x : Addr) (ds : Addr) (zs : Int32) (A : Nat) (n_ : Nat) (k_ : Nat) (zc : Int32) (h0 : Heap) (n0 : Nat) (Z0 : n0 ≤ h0.size) (O0 : Old Z n0 h0) (SC : Sta Z Z.heap "java/lang/String" "COMPACT_STRINGS" "Z" (.int zc)) (hzc : ¬ (zc = (0 : Int32))) (SB : SBF Z h0 b d zA zn) (ST : STF Z h0 x ds zs) (g_b : n0 ≤ b) (g_d : n0 ≤ d) (neds : ds ≠ d) (hA : zA.toInt = (A : Int)) (hn_ : zn.toInt = (n_ : Int)) (hs_ : zs.toInt = (k_ : Int)) (hbd : n_ ≤ A ∧ A ≤ 100 ∧ k_ ≤ 30) :
    MetFree l (⟨"java/lang/StringBuilder", "append", "(Ljava/lang/String;)Ljava/lang/StringBuilder;"⟩ : MethodName) (head1 (Jvm.Cond.code (⟨"java/lang/StringBuilder", "append", "(Ljava/lang/String;)Ljava/lang/StringBuilder;"⟩ : MethodName) jdk_67_method_7_code 2 (some (.object "java/lang/StringBuilder")) :: ws) ({ frames := 6, cells := 1, slots := 400, locals := 120 } : Room)) (fun a U => a = #[(.ref b), (.ref x)] ∧ Z.Warmed39 U.vm ∧ U.heap = h0) (fun _ _ _ _ _ => True) (fun _ U o U' => ∃ v L, o = .returned v ∧ Q11 Z b d zA zn x ds zs A n_ k_ zc h0 n0 v U'.heap L ∧ FrameEnd U o U' L ({ frames := 6, cells := 1, slots := 400, locals := 120 } : Room).cells ({ frames := 6, cells := 1, slots := 400, locals := 120 } : Room).slots) := by
  refine MetFree.of_bodySF (plainFor_of_name pn_11) hisR ?_
  intro p e s m args below meth c s₁ Bd hml0 hP hK
  obtain ⟨rfl, hZ, hh⟩ := hP
  have hx := Bd.exec
  have hby := Bd.bytes
  have hml : c.maxLocals = 2 := hml0
  have hown : s.vm.findClass "java/lang/StringBuilder" = some m.cls := findClass_of_methodNamed Bd.named
  have hnm := (name_of_methodNamed Bd.named Bd.method).1
  have X0 : Stand p l e ({ frames := 6, cells := 1, slots := 400, locals := 120 } : Room) s m #[(.ref b), (.ref x)] below meth c s₁ [] 0 0 := Stand.of_body Bd
  have e0 : s₁.heap = h0 := by rw [← hh, Bd.state]; rfl
  have N0 := Fr.nil n0
  show Ends p.tables e below (fun (s₂ : State) (o : Outcome) => ∃ v L, o = .returned v ∧ (Q11 Z b d zA zn x ds zs A n_ k_ zc h0 n0) v s₂.heap L ∧ FrameEnd s o s₂ L ({ frames := 6, cells := 1, slots := 400, locals := 120 } : Room).cells ({ frames := 6, cells := 1, slots := 400, locals := 120 } : Room).slots) (s₁.setTop (entryFrame m #[(.ref b), (.ref x)] 2))
  refine Ends.any fun G hG => ?_
  refine Ends.go (fun t k => castTop (ef_11 m b x) k) ?_
  show Ends p.tables e below G (s₁.setTop (mkF m 0 #[rv b, rv x] []))
  obtain ⟨Eb_b, Fv_b, Fc_b, Fn_b, Ba_b, Ea_b⟩ := SB
  have ne_b_d : b ≠ d := Exa.ne Eb_b Ea_b (by decide)
  obtain ⟨Es_x, Fv_x, Fc_x, Bs_x⟩ := ST
  have ne_b_x : b ≠ x := Exa.ne Eb_b Es_x (by decide)
  have ne_x_d : x ≠ d := Exa.ne Es_x Ea_b (by decide)
  have ne_b_ds : b ≠ ds := own_neB Eb_b Bs_x (hw _ (List.mem_of_getElem? (i := 41) rfl))
  refine Ends.go (fun _ => XS.aloadN X0.here hx rfl (hb hby d11_0) rfl rfl) ?_
  show Ends p.tables e below G (s₁.setTop (mkF m 1 #[rv b, rv x] [(.ref b)]))
  refine Ends.go (fun _ => XS.aloadN X0.here hx rfl (hb hby d11_1) rfl rfl) ?_
  show Ends p.tables e below G (s₁.setTop (mkF m 2 #[rv b, rv x] [(.ref x), (.ref b)]))
  obtain ⟨_, _, ⟨T1, L1, k1, n1⟩, -, X1, ⟨Lc1, hQ1, l1, y1, z1⟩, st1⟩ := superBack X0 hx hZ (y := (⟨"java/lang/AbstractStringBuilder", "append", "(Ljava/lang/String;)Ljava/lang/AbstractStringBuilder;"⟩ : MethodName)) hown (hw _ (List.mem_of_getElem? (i := 66) rfl)) (own_same (y := (⟨"java/lang/AbstractStringBuilder", "append", "(Ljava/lang/String;)Ljava/lang/AbstractStringBuilder;"⟩ : MethodName)) (y2 := (⟨"java/lang/AbstractStringBuilder", "ensureCapacityInternal", "(I)V"⟩ : MethodName)) rfl (hw _ (List.mem_of_getElem? (i := 86) rfl)) (hw _ (List.mem_of_getElem? (i := 67) rfl)) (by decide)) (hw _ (List.mem_of_getElem? (i := 67) rfl)) (hw _ (List.mem_of_getElem? (i := 68) rfl)) (by decide) (backOf (W := 0) (rm12 l Z a0 hw [] b d zA zn x ds zs A n_ k_ zc h0 n0 Z0 O0 SC hzc ⟨Eb_b, Fv_b, Fc_b, Fn_b, Ba_b, Ea_b⟩ ⟨Es_x, Fv_x, Fc_x, Bs_x⟩ g_b g_d neds Bs_x hA hn_ hs_ hbd) hZ (hw _ (List.mem_of_getElem? (i := 70) rfl)) (hw _ (List.mem_of_getElem? (i := 50) rfl)) (by decide) (by decide)) e0 (Ins.self Eb_b) (g := (mkF m 2 #[rv b, rv x] [(.ref x), (.ref b)])) rfl (by rw [hml]; rfl) (hw _ (List.mem_of_getElem? (i := 70) rfl)) (argsL := [(.ref x)]) (rest := []) (lenOf pd_12 rfl) rfl (by show 2 * 0 + _ ≤ _; exact Nat.le_of_eq rfl) (hb hby d11_2) (fun _ _ => ⟨rfl, e0, (by decide : 0 + 1 ≤ _), (by decide : 0 + 400 ≤ _)⟩)
  dsimp only [Pt.U, Pt.locs, Pt.cells, Pt.slots] at X1 l1 y1 z1 st1 hQ1
  subst l1 y1 z1
  obtain ⟨dn1, za1, an1, zq1, rfl, N1q, Kq1, Sq1, hz1, hq1, gq1, hg1⟩ := hQ1
  have N1 := Fr.app N0 N1q
  have f1_E_b := Exa.keep Eb_b Kq1
  have f1_E_d := Exa.keep Ea_b Kq1
  have f1_E_x := Exa.keep Es_x Kq1
  have f1_F_x_value := Fld.keep Fv_x Kq1 (ninS (Ne.symm ne_b_x) (ninS ne_x_d nin0))
  have f1_F_x_coder := Fld.keep Fc_x Kq1 (ninS (Ne.symm ne_b_x) (ninS ne_x_d nin0))
  have f1_P_ds := BA.keep Bs_x Kq1 (ninS (Ne.symm ne_b_ds) (ninS neds nin0))
  have sz1 := Nat.le_trans Z0 (Kq1).1
  have K1z := Keep.trans (Keep.refl h0 [b, d]) Kq1 (allS (Or.inl (List.mem_of_getElem? (i := 0) rfl)) (allS (Or.inl (List.mem_of_getElem? (i := 1) rfl)) all0))
  have O1 := Old.keep O0 Kq1 (allS g_b (allS g_d all0))
  obtain ⟨Ee1, Fe1, Ge1, He1, Be1, Ze1⟩ := Sq1
  refine Ends.go (fun _ => st1.trans) ?_
  show Ends p.tables e below G (T1.setTop (mkF m 5 #[rv b, rv x] [(.ref b)]))
  refine Ends.go (fun _ => XS.pop X1.here hx rfl (hb hby d11_5) rfl rfl) ?_
  show Ends p.tables e below G (T1.setTop (mkF m 6 #[rv b, rv x] []))
  refine Ends.go (fun _ => XS.aloadN X1.here hx rfl (hb hby d11_6) rfl rfl) ?_
  show Ends p.tables e below G (T1.setTop (mkF m 7 #[rv b, rv x] [(.ref b)]))
  refine own_finR X1 hx Bd.returns rfl Bd.notSynchronized (hb hby d11_7) (Q := (Q11 Z b d zA zn x ds zs A n_ k_ zc h0 n0)) hG (by decide) (by decide) ?_
  show (Q11 Z b d zA zn x ds zs A n_ k_ zc h0 n0) _ T1.heap _
  exact ⟨dn1, za1, an1, zq1, rfl, N1, K1z, ⟨Ee1, Fe1, Ge1, He1, Be1, Ze1⟩, hz1, hq1, gq1, hg1⟩
section OwnSize
theorem own_size (x : Int32) : ∃ k n : Nat, n ≤ 2 ^ 31 ∧ (if x < 0 then x else -x) = Jvm.Free.SBG.negI n ∧ k = Jvm.Free.SBG.digits n + Jvm.Free.SBG.GetChars.sgn x ∧ 1 ≤ k ∧ k ≤ 11 ∧ (Jvm.Free.SBG.strSizeOf x).toInt = (k : Int) := by
  obtain ⟨n, h1, h2⟩ := Jvm.Free.SBG.negI_of x
  obtain ⟨p1, p2⟩ := Jvm.Free.SBG.digits_pos n
  have hs : Jvm.Free.SBG.GetChars.sgn x = if x < 0 then 1 else 0 := rfl
  have hz : Jvm.Free.SBG.strSizeOf x = if x < 0 then Jvm.Free.SBG.sizeLoop 9 x (-10) 1 + 1 else Jvm.Free.SBG.sizeLoop 9 (-x) (-10) 1 + 0 := rfl
  by_cases q : x < 0
  · simp only [if_pos q] at h2 hs hz
    refine ⟨Jvm.Free.SBG.digits n + Jvm.Free.SBG.GetChars.sgn x, n, h1, by rw [if_pos q]; exact h2, rfl, by omega, by omega, ?_⟩
    rw [hz, hs, h2, Jvm.Free.SBG.sizeLoop_digits h1]
    exact own_add (b := 1) (Int32.toInt_ofNat_of_lt (by omega)) rfl (by omega)
  · simp only [if_neg q] at h2 hs hz
    refine ⟨Jvm.Free.SBG.digits n + Jvm.Free.SBG.GetChars.sgn x, n, h1, by rw [if_neg q]; exact h2, rfl, by omega, by omega, ?_⟩
    rw [hz, hs, h2, Jvm.Free.SBG.sizeLoop_digits h1]
    exact own_add (b := 0) (Int32.toInt_ofNat_of_lt (by omega)) rfl (by omega)
end OwnSize
theorem own_tlt {Z : State} {f : String} {st d : Addr} {D : Cell} (T : Jvm.Free.SBG.Tbl Z f st d D) : st < Z.heap.size ∧ d < Z.heap.size ∧ Z.heap[d]? = some D := by
  obtain ⟨cf, i, k, fl, cell, h1, h2, h3, h4, h5, h6, h7, h8, -⟩ := T
  exact ⟨(Array.getElem?_eq_some_iff.mp h5).1, (Array.getElem?_eq_some_iff.mp h8).1, h8⟩
theorem own_kp {h h' : Heap} {x : Addr} {c c' : Cell} (k : ∀ (y : Addr) (cy : Cell), y ≠ x → h[y]? = some cy → h'[y]? = some cy) (hc : h[x]? = some c) (hc' : h'[x]? = some c') (e1 : c'.cls = c.cls) (e2 : c'.vm = c.vm) (e3 : c'.slots.size = c.slots.size) (hs : h.size ≤ h'.size) : Keep h h' [x] :=
  ⟨hs, fun y cy hy hn => k y cy (fun q => hn (by rw [q]; exact List.mem_singleton.mpr rfl)) hy, fun y cy hy => by
    by_cases q : y = x
    · subst q; cases hc.symm.trans hy; exact ⟨c', hc', e1, e2, e3⟩
    · exact ⟨cy, k y cy q hy, rfl, rfl, rfl⟩⟩
theorem own_ba {Z : State} {h h' : Heap} {x : Addr} {c c' : Cell} {z : Int32} (A : Arr Z h x c .byte) (S : c.slots.size = z.toNatClampNeg) (nz : ¬ z < 0) (hc' : h'[x]? = some c') (e1 : c'.cls = c.cls) (e2 : c'.vm = c.vm) (e3 : c'.slots.size = c.slots.size) (f : ∀ i, i < c'.slots.size → fits .byte (c'.slots.getD i .null) = true) : BA Z h' x z := by
  refine ⟨c'.cls, c'.slots.toList, c', ⟨hc', ?_, by rw [e2]; exact A.2.2⟩, rfl, e3.trans S, nz, fun i hi => ?_, fun i hi => ?_⟩
  · obtain ⟨b1, kA, b2, comp, b3⟩ := A.2.1
    exact ⟨fun q => by rw [e2]; exact b1 q, kA, by rw [e1]; exact b2, comp, b3⟩
  · simp [List.getD_eq_getElem?_getD, hi]
  · have := f i hi
    simpa [List.getD_eq_getElem?_getD, Array.getD_eq_getD_getElem?, hi] using this
theorem d25_0 : decode jdk_68_method_32_code 0 = .ok (.aload_n 0, 1) := by decide +kernel
theorem d25_1 : decode jdk_68_method_32_code 1 = .ok (.getfield 79, 3) := by decide +kernel
theorem d25_4 : decode jdk_68_method_32_code 4 = .ok (.istore_n 2, 1) := by decide +kernel
theorem d25_5 : decode jdk_68_method_32_code 5 = .ok (.iload_n 2, 1) := by decide +kernel
theorem d25_6 : decode jdk_68_method_32_code 6 = .ok (.iload_n 1, 1) := by decide +kernel
theorem d25_7 : decode jdk_68_method_32_code 7 = .ok (.invokestatic 245, 3) := by decide +kernel
theorem d25_10 : decode jdk_68_method_32_code 10 = .ok (.iadd, 1) := by decide +kernel
theorem d25_11 : decode jdk_68_method_32_code 11 = .ok (.istore_n 3, 1) := by decide +kernel
theorem d25_12 : decode jdk_68_method_32_code 12 = .ok (.aload_n 0, 1) := by decide +kernel
theorem d25_13 : decode jdk_68_method_32_code 13 = .ok (.iload_n 3, 1) := by decide +kernel
theorem d25_14 : decode jdk_68_method_32_code 14 = .ok (.invokevirtual 100, 3) := by decide +kernel
theorem d25_17 : decode jdk_68_method_32_code 17 = .ok (.aload_n 0, 1) := by decide +kernel
theorem d25_18 : decode jdk_68_method_32_code 18 = .ok (.invokevirtual 83, 3) := by decide +kernel
theorem pd_13 : parseMethodDescriptor "()Z" = some ⟨[], some .boolean⟩ := by decide +kernel
theorem d25_21 : decode jdk_68_method_32_code 21 = .ok (.ifCond .eq 16, 3) := by decide +kernel
theorem d25_24 : decode jdk_68_method_32_code 24 = .ok (.iload_n 1, 1) := by decide +kernel
theorem d25_25 : decode jdk_68_method_32_code 25 = .ok (.iload_n 3, 1) := by decide +kernel
theorem d25_26 : decode jdk_68_method_32_code 26 = .ok (.aload_n 0, 1) := by decide +kernel
theorem d25_27 : decode jdk_68_method_32_code 27 = .ok (.getfield 15, 3) := by decide +kernel
theorem d25_30 : decode jdk_68_method_32_code 30 = .ok (.invokestatic 248, 3) := by decide +kernel
theorem pd_14 : parseMethodDescriptor "(II[B)I" = some ⟨[.int, .int, (.array .byte)], some .int⟩ := by decide +kernel
theorem d25_33 : decode jdk_68_method_32_code 33 = .ok (.pop, 1) := by decide +kernel
theorem d25_34 : decode jdk_68_method_32_code 34 = .ok (.goto 14, 3) := by decide +kernel
theorem d25_37 : decode jdk_68_method_32_code 37 = .ok (.iload_n 1, 1) := by decide +kernel
theorem d25_38 : decode jdk_68_method_32_code 38 = .ok (.iload_n 2, 1) := by decide +kernel
theorem d25_39 : decode jdk_68_method_32_code 39 = .ok (.iload_n 3, 1) := by decide +kernel
theorem d25_40 : decode jdk_68_method_32_code 40 = .ok (.aload_n 0, 1) := by decide +kernel
theorem d25_41 : decode jdk_68_method_32_code 41 = .ok (.getfield 15, 3) := by decide +kernel
theorem d25_44 : decode jdk_68_method_32_code 44 = .ok (.invokestatic 251, 3) := by decide +kernel
theorem d25_47 : decode jdk_68_method_32_code 47 = .ok (.pop, 1) := by decide +kernel
theorem d25_48 : decode jdk_68_method_32_code 48 = .ok (.aload_n 0, 1) := by decide +kernel
theorem d25_49 : decode jdk_68_method_32_code 49 = .ok (.iload_n 3, 1) := by decide +kernel
theorem d25_50 : decode jdk_68_method_32_code 50 = .ok (.putfield 79, 3) := by decide +kernel
theorem d25_53 : decode jdk_68_method_32_code 53 = .ok (.aload_n 0, 1) := by decide +kernel
theorem d25_54 : decode jdk_68_method_32_code 54 = .ok (.areturn, 1) := by decide +kernel
theorem pn_25 : plainName "java/lang/AbstractStringBuilder" = true := by first | (simp [plainName, overriddenIn]; done) | decide +kernel
theorem ef_25 (m : MethodId) (x0 : Addr) (x1 : Int32) : entryFrame m #[(.ref x0), (.int x1)] 4 = mkF m 0 #[rv x0, iv x1, un, un] [] := by first | (simp [entryFrame, mkF, argsToLocals, Value.category]; done) | rfl
def Q25 (Z : State) (b : Addr) (d : Addr) (zA : Int32) (zn : Int32) (wv : Int32) (A : Nat) (n_ : Nat) (dst : Addr) (a1 : Addr) (a2 : Addr) (DC1 : Cell) (DC2 : Cell) (zc : Int32) (h0 : Heap) (n0 : Nat) (v : Option Value) (h : Heap) (L : List Loc) : Prop := ∃ (d' : Addr) (zA' : Int32) (A' : Nat) (zn' : Int32) (k_ : Nat), v = some (.ref b) ∧ Fr n0 L ∧ Keep h0 h [b, d] ∧ SBF Z h b d' zA' zn' ∧ zA'.toInt = (A' : Int) ∧ zn'.toInt = ((n_ + k_ : Nat) : Int) ∧ n0 ≤ d' ∧ (1 ≤ k_ ∧ k_ ≤ 11) ∧ (((n_ + k_) ≤ A ∧ A' = A ∧ d' = d) ∨ (A < (n_ + k_) ∧ h0.size ≤ d' ∧ ∃ k, A' = A + k ∧ (n_ + k_) - A ≤ k ∧ A + 2 ≤ k ∧ (k = (n_ + k_) - A ∨ k = A + 2)))
set_option maxRecDepth 65536 in
set_option maxHeartbeats 40000000 in
theorem rm25 (l : Launch) (Z : State) (a0 : Array Value) (hw : ∀ d ∈ tables_1, d.before a0 Z = true) (ws : List Jvm.Cond) (b : Addr) (d : Addr) (zA : Int32) (zn : Int32) (wv : Int32) (A : Nat) (n_ : Nat) (dst : Addr) (a1 : Addr) (a2 : Addr) (DC1 : Cell) (DC2 : Cell) (zc : Int32) (h0 : Heap) (n0 : Nat) (Z0 : n0 ≤ h0.size) (O0 : Old Z n0 h0) (SC : Sta Z Z.heap "java/lang/String" "COMPACT_STRINGS" "Z" (.int zc)) (hzc : ¬ (zc = (0 : Int32))) (TB1 : Jvm.Free.SBG.Tbl Z "DigitOnes" dst a1 DC1) (TB2 : Jvm.Free.SBG.Tbl Z "DigitTens" dst a2 DC2) (SB : SBF Z h0 b d zA zn) (g_b : n0 ≤ b) (g_d : n0 ≤ d) (hA : zA.toInt = (A : Int)) (hn_ : zn.toInt = (n_ : Int)) (hbd : n_ ≤ A ∧ A ≤ 100) :
    MetFree l (⟨"java/lang/AbstractStringBuilder", "append", "(I)Ljava/lang/AbstractStringBuilder;"⟩ : MethodName) (head1 (Jvm.Cond.code (⟨"java/lang/AbstractStringBuilder", "append", "(I)Ljava/lang/AbstractStringBuilder;"⟩ : MethodName) jdk_68_method_32_code 4 (some (.object "java/lang/AbstractStringBuilder")) :: ws) ({ frames := 5, cells := 1, slots := 400, locals := 100 } : Room)) (fun a U => a = #[(.ref b), (.int wv)] ∧ Z.Warmed39 U.vm ∧ U.heap = h0) (fun _ _ _ _ _ => True) (fun _ U o U' => ∃ v L, o = .returned v ∧ Q25 Z b d zA zn wv A n_ dst a1 a2 DC1 DC2 zc h0 n0 v U'.heap L ∧ FrameEnd U o U' L ({ frames := 5, cells := 1, slots := 400, locals := 100 } : Room).cells ({ frames := 5, cells := 1, slots := 400, locals := 100 } : Room).slots) := by
  refine MetFree.of_bodySF (plainFor_of_name pn_25) hisR ?_
  intro p e s m args below meth c s₁ Bd hml0 hP hK
  obtain ⟨rfl, hZ, hh⟩ := hP
  have hx := Bd.exec
  have hby := Bd.bytes
  have hml : c.maxLocals = 4 := hml0
  have hown : s.vm.findClass "java/lang/AbstractStringBuilder" = some m.cls := findClass_of_methodNamed Bd.named
  have hnm := (name_of_methodNamed Bd.named Bd.method).1
  have X0 : Stand p l e ({ frames := 5, cells := 1, slots := 400, locals := 100 } : Room) s m #[(.ref b), (.int wv)] below meth c s₁ [] 0 0 := Stand.of_body Bd
  have e0 : s₁.heap = h0 := by rw [← hh, Bd.state]; rfl
  have N0 := Fr.nil n0
  show Ends p.tables e below (fun (s₂ : State) (o : Outcome) => ∃ v L, o = .returned v ∧ (Q25 Z b d zA zn wv A n_ dst a1 a2 DC1 DC2 zc h0 n0) v s₂.heap L ∧ FrameEnd s o s₂ L ({ frames := 5, cells := 1, slots := 400, locals := 100 } : Room).cells ({ frames := 5, cells := 1, slots := 400, locals := 100 } : Room).slots) (s₁.setTop (entryFrame m #[(.ref b), (.int wv)] 4))
  refine Ends.any fun G hG => ?_
  refine Ends.go (fun t k => castTop (ef_25 m b wv) k) ?_
  show Ends p.tables e below G (s₁.setTop (mkF m 0 #[rv b, iv wv, un, un] []))
  obtain ⟨Eb_b, Fv_b, Fc_b, Fn_b, Ba_b, Ea_b⟩ := SB
  have ne_b_d : b ≠ d := Exa.ne Eb_b Ea_b (by decide)
  obtain ⟨k_, nn_, hn31, hneg, hkd, hk1, hk11, hss⟩ := own_size wv
  refine Ends.go (fun _ => XS.aloadN X0.here hx rfl (hb hby d25_0) rfl rfl) ?_
  show Ends p.tables e below G (s₁.setTop (mkF m 1 #[rv b, iv wv, un, un] [(.ref b)]))
  obtain ⟨T1, X1, e1, st1⟩ := getF X0 hx hZ hown (host := "") (Or.inl (hw _ (List.mem_of_getElem? (i := 81) rfl))) Via.refl e0 Fn_b (g := (mkF m 1 #[rv b, iv wv, un, un] [(.ref b)])) rfl rfl (hb hby d25_1)
  refine Ends.go (fun _ => st1 _) ?_
  show Ends p.tables e below G (T1.setTop (mkF m 4 #[rv b, iv wv, un, un] [(.int zn)]))
  refine Ends.go (fun _ => XS.istoreN (g := (mkF m 4 #[rv b, iv wv, un, un] [(.int zn)])) X1.here hx rfl (hb hby d25_4) rfl (l' := #[rv b, iv wv, iv zn, un]) rfl) ?_
  show Ends p.tables e below G (T1.setTop (mkF m 5 #[rv b, iv wv, iv zn, un] []))
  refine Ends.go (fun _ => XS.iloadN X1.here hx rfl (hb hby d25_5) rfl) ?_
  show Ends p.tables e below G (T1.setTop (mkF m 6 #[rv b, iv wv, iv zn, un] [(.int zn)]))
  refine Ends.go (fun _ => XS.iloadN X1.here hx rfl (hb hby d25_6) rfl) ?_
  show Ends p.tables e below G (T1.setTop (mkF m 7 #[rv b, iv wv, iv zn, un] [(.int wv), (.int zn)]))
  obtain ⟨v2, vm2, ⟨T2, L2, k2, n2⟩, -, X2, po2, st2⟩ := Jvm.LawKit.callS X1 hx (y := (⟨"java/lang/Integer", "stringSize", "(I)I"⟩ : MethodName)) hown (mvT hZ (hw _ (List.mem_of_getElem? (i := 142) rfl))) (mvT hZ (hw _ (List.mem_of_getElem? (i := 143) rfl))) (mvT hZ (hw _ (List.mem_of_getElem? (i := 144) rfl))) (mvT hZ (hw _ (List.mem_of_getElem? (i := 145) rfl))) (by decide) (Jvm.Free.SBG.StrSize.pays (W := 1) (by decide) (by decide) (mvT hZ (hw _ (List.mem_of_getElem? (i := 145) rfl))) (mvT hZ (hw _ (List.mem_of_getElem? (i := 144) rfl)))) (g := (mkF m 7 #[rv b, iv wv, iv zn, un] [(.int wv), (.int zn)])) rfl (by rw [hml]; rfl) (argsL := [(.int wv)]) (rest := [(.int zn)]) (lenOf pd_6 rfl) rfl (by show 2 * 0 + _ ≤ _; exact Nat.le_of_eq rfl) (hb hby d25_7) (fun _ _ => ⟨(by decide : 0 ≤ _), (by decide : 0 ≤ _), wv, rfl⟩)
  obtain ⟨pp2, rv2⟩ := po2
  dsimp only [Pt.U, Pt.locs, Pt.cells, Pt.slots] at X2 st2 pp2 rv2
  obtain ⟨pa2, pb2, pc2, pd2⟩ := pp2
  have rw2 := rv2 wv rfl
  subst rw2
  dsimp only [Pt.U, Pt.locs, Pt.cells, Pt.slots] at pa2 pb2 pc2 pd2
  subst pb2 pc2 pd2
  have e2 : T2.heap = h0 := pa2.trans e1
  refine Ends.go (fun _ => st2 _) ?_
  show Ends p.tables e below G (T2.setTop (mkF m 10 #[rv b, iv wv, iv zn, un] [(.int (Jvm.Free.SBG.strSizeOf wv)), (.int zn)]))
  generalize hsz : Jvm.Free.SBG.strSizeOf wv = zs at hss ⊢
  show Ends p.tables e below G (T2.setTop (mkF m 10 #[rv b, iv wv, iv zn, un] [(.int zs), (.int zn)]))
  have hnk : (zn + zs).toInt = ((n_ + k_ : Nat) : Int) := own_add hn_ hss (by omega)
  refine Ends.go (fun _ => XS.iadd X2.here hx rfl (hb hby d25_10) rfl) ?_
  show Ends p.tables e below G (T2.setTop (mkF m 11 #[rv b, iv wv, iv zn, un] [(.int (zn + zs))]))
  refine Ends.go (fun _ => XS.istoreN (g := (mkF m 11 #[rv b, iv wv, iv zn, un] [(.int (zn + zs))])) X2.here hx rfl (hb hby d25_11) rfl (l' := #[rv b, iv wv, iv zn, iv (zn + zs)]) rfl) ?_
  show Ends p.tables e below G (T2.setTop (mkF m 12 #[rv b, iv wv, iv zn, iv (zn + zs)] []))
  refine Ends.go (fun _ => XS.aloadN X2.here hx rfl (hb hby d25_12) rfl rfl) ?_
  show Ends p.tables e below G (T2.setTop (mkF m 13 #[rv b, iv wv, iv zn, iv (zn + zs)] [(.ref b)]))
  refine Ends.go (fun _ => XS.iloadN X2.here hx rfl (hb hby d25_13) rfl) ?_
  show Ends p.tables e below G (T2.setTop (mkF m 14 #[rv b, iv wv, iv zn, iv (zn + zs)] [(.int (zn + zs)), (.ref b)]))
  obtain ⟨cq3, q3, q3'⟩ := Eb_b.cell
  obtain ⟨_, _, ⟨T3, L3, k3, n3⟩, -, X3, ⟨Lc3, hQ3, l3, y3, z3⟩, st3⟩ := X2.privateBack hx (y := (⟨"java/lang/AbstractStringBuilder", "ensureCapacityInternal", "(I)V"⟩ : MethodName)) hown (mvT hZ (hw _ (List.mem_of_getElem? (i := 83) rfl))) (mvT hZ (hw _ (List.mem_of_getElem? (i := 84) rfl))) (own_selC (a1 := #[]) (mvT hZ (hw _ (List.mem_of_getElem? (i := 86) rfl))) (Cond.privateMethod_at (mvP hZ (hw _ (List.mem_of_getElem? (i := 85) rfl)) (args := #[]))) (mvT hZ (hw _ (List.mem_of_getElem? (i := 84) rfl))) (by decide)) (Cond.privateMethod_at (mvP hZ (hw _ (List.mem_of_getElem? (i := 85) rfl)) (args := #[]))) (mvT hZ (hw _ (List.mem_of_getElem? (i := 87) rfl))) (by decide) (backOf (W := 0) (rm15 l Z a0 hw [] b d zA zn (zn + zs) A (n_ + k_) zc h0 n0 Z0 O0 SC hzc ⟨Eb_b, Fv_b, Fc_b, Fn_b, Ba_b, Ea_b⟩ g_b g_d hA hnk (by omega) (by omega)) hZ (hw _ (List.mem_of_getElem? (i := 87) rfl)) (hw _ (List.mem_of_getElem? (i := 50) rfl)) (by decide) (by decide)) (g := (mkF m 14 #[rv b, iv wv, iv zn, iv (zn + zs)] [(.int (zn + zs)), (.ref b)])) rfl (by rw [hml]; rfl) (Steps.refl _) (a := b) (by rw [e2]; exact q3) q3' (argsL := [(.int (zn + zs))]) (rest := []) (lenOf pd_10 rfl) rfl (by show 2 * 0 + _ ≤ _; exact Nat.le_of_eq rfl) (hb hby d25_14) (fun _ _ => ⟨rfl, e2, (by decide : 0 + 1 ≤ _), (by decide : 0 + 400 ≤ _)⟩)
  dsimp only [Pt.U, Pt.locs, Pt.cells, Pt.slots] at X3 l3 y3 z3 st3 hQ3
  subst l3 y3 z3
  obtain ⟨dn3, za3, an3, rfl, N3q, Kq3, Sq3, hz3, gq3, hg3⟩ := hQ3
  have N3 := Fr.app N0 N3q
  have f3_E_b := Exa.keep Eb_b Kq3
  have f3_P_d := BA.keep Ba_b Kq3 (ninS (Ne.symm ne_b_d) nin0)
  have f3_E_d := Exa.keep Ea_b Kq3
  have sz3 := Nat.le_trans Z0 (Kq3).1
  have K3z := Keep.trans (Keep.refl h0 [b, d]) Kq3 (allS (Or.inl (List.mem_of_getElem? (i := 0) rfl)) all0)
  have O3 := Old.keep O0 Kq3 (allS g_b all0)
  obtain ⟨Ee3, Fe3, Ge3, He3, Be3, Ze3⟩ := Sq3
  have ne_b_dn3 : b ≠ dn3 := Exa.ne Ee3 Ze3 (by decide)
  refine Ends.go (fun _ => st3.trans) ?_
  show Ends p.tables e below G (T3.setTop (mkF m 17 #[rv b, iv wv, iv zn, iv (zn + zs)] []))
  have hcap3 : n_ + k_ ≤ an3 := by rcases hg3 with ⟨q1, q2, -⟩ | ⟨q1, -, kk, q3, q4, -⟩ <;> omega
  have ko_dn3 : dn3 ∈ ([b, d] : List Addr) ∨ h0.size ≤ dn3 := by
    rcases hg3 with ⟨-, -, q3⟩ | ⟨-, q2, -⟩
    · left; rw [q3]; simp
    · exact Or.inr q2
  refine Ends.go (fun _ => XS.aloadN X3.here hx rfl (hb hby d25_17) rfl rfl) ?_
  show Ends p.tables e below G (T3.setTop (mkF m 18 #[rv b, iv wv, iv zn, iv (zn + zs)] [(.ref b)]))
  obtain ⟨cq4, kq4, q4a, q4b, q4c⟩ := isOf hZ rfl Ee3
  obtain ⟨_, _, ⟨T4, L4, k4, n4⟩, -, X4, ⟨Lc4, hQ4, l4, y4, z4⟩, st4⟩ := X3.virtualBack hx (y := (⟨"java/lang/AbstractStringBuilder", "isLatin1", "()Z"⟩ : MethodName)) (z := (⟨"java/lang/AbstractStringBuilder", "isLatin1", "()Z"⟩ : MethodName)) hown (mvT hZ (hw _ (List.mem_of_getElem? (i := 146) rfl))) (mvT hZ (hw _ (List.mem_of_getElem? (i := 147) rfl))) (notFace_of_selects (args := #[]) (mvT hZ (hw _ (List.mem_of_getElem? (i := 149) rfl)))) (mvT hZ (hw _ (List.mem_of_getElem? (i := 149) rfl))) (mvT hZ (hw _ (List.mem_of_getElem? (i := 148) rfl))) (by decide) (backOf (W := 0) (rm27 l Z a0 hw [] b dn3 za3 zn zc T3.heap n0 sz3 O3 SC hzc ⟨Ee3, Fe3, Ge3, He3, Be3, Ze3⟩) hZ (hw _ (List.mem_of_getElem? (i := 150) rfl)) (hw _ (List.mem_of_getElem? (i := 50) rfl)) (by decide) (by decide)) q4a q4c (g := (mkF m 18 #[rv b, iv wv, iv zn, iv (zn + zs)] [(.ref b)])) rfl (by rw [hml]; rfl) (Steps.refl _) (argsL := []) (rest := []) (lenOf pd_13 rfl) rfl (by show 2 * 0 + _ ≤ _; exact Nat.le_of_eq rfl) (hb hby d25_18) (fun _ _ => ⟨rfl, rfl, (by decide : (0 + 1) + 0 ≤ _), (by decide : (0 + 400) + 0 ≤ _)⟩)
  dsimp only [Pt.U, Pt.locs, Pt.cells, Pt.slots] at X4 l4 y4 z4 st4 hQ4
  subst l4 y4 z4
  obtain ⟨rfl, N4q, e4⟩ := hQ4
  have N4 := Fr.app N3 N4q
  refine Ends.go (fun _ => st4.trans) ?_
  show Ends p.tables e below G (T4.setTop (mkF m 21 #[rv b, iv wv, iv zn, iv (zn + zs)] [(.int (1 : Int32))]))
  refine Ends.go (fun _ => XS.ifNo X4.here hx rfl (hb hby d25_21) rfl ((if0 _ _).trans (feq ((by decide) : ¬ ((1 : Int32) = (0 : Int32)))).1)) ?_
  show Ends p.tables e below G (T4.setTop (mkF m 24 #[rv b, iv wv, iv zn, iv (zn + zs)] []))
  refine Ends.go (fun _ => XS.iloadN X4.here hx rfl (hb hby d25_24) rfl) ?_
  show Ends p.tables e below G (T4.setTop (mkF m 25 #[rv b, iv wv, iv zn, iv (zn + zs)] [(.int wv)]))
  refine Ends.go (fun _ => XS.iloadN X4.here hx rfl (hb hby d25_25) rfl) ?_
  show Ends p.tables e below G (T4.setTop (mkF m 26 #[rv b, iv wv, iv zn, iv (zn + zs)] [(.int (zn + zs)), (.int wv)]))
  refine Ends.go (fun _ => XS.aloadN X4.here hx rfl (hb hby d25_26) rfl rfl) ?_
  show Ends p.tables e below G (T4.setTop (mkF m 27 #[rv b, iv wv, iv zn, iv (zn + zs)] [(.ref b), (.int (zn + zs)), (.int wv)]))
  obtain ⟨T5, X5, e5, st5⟩ := getF X4 hx hZ hown (host := "") (Or.inl (hw _ (List.mem_of_getElem? (i := 54) rfl))) Via.refl e4 Fe3 (g := (mkF m 27 #[rv b, iv wv, iv zn, iv (zn + zs)] [(.ref b), (.int (zn + zs)), (.int wv)])) rfl rfl (hb hby d25_27)
  refine Ends.go (fun _ => st5 _) ?_
  show Ends p.tables e below G (T5.setTop (mkF m 30 #[rv b, iv wv, iv zn, iv (zn + zs)] [(.ref dn3), (.int (zn + zs)), (.int wv)]))
  obtain ⟨kz, vz, cz, Az, -, Sz, nz, Hz, Gz⟩ := id Be3
  have hal_ : Z.vm.Alike T5.vm := hZ.alike.trans X5.warmed.alike
  obtain ⟨ls_, l1_, m1_⟩ := own_tlt TB1
  obtain ⟨-, l2_, m2_⟩ := own_tlt TB2
  have tb1 := TB1.move (U' := T5) hal_ (fun c7 h7 => e5 ▸ O3.2.2 _ _ h7) (e5 ▸ O3.2.2 _ _ m1_)
  have tb2 := TB2.move (U' := T5) hal_ (fun c7 h7 => e5 ▸ O3.2.2 _ _ h7) (e5 ▸ O3.2.2 _ _ m2_)
  have szA : cz.slots.size = an3 := by rw [Sz, own_tn hz3]
  have eidx : zn + zs = Int32.ofNat (n_ + k_) := Int32.toInt_inj.mp (by rw [hnk, Int32.toInt_ofNat_of_lt (by omega)])
  have nst : dn3 ≠ dst := Ne.symm (O3.ne ls_ gq3)
  have nd1 : dn3 ≠ a1 := Ne.symm (O3.ne l1_ gq3)
  have nd2 : dn3 ≠ a2 := Ne.symm (O3.ne l2_ gq3)
  have tabW : Jvm.Free.SBG.GetChars.tab.before #[Value.ref b, .int wv] s = true := by
    simp only [Jvm.Free.SBG.GetChars.tab, Cond.before_and, Bool.and_eq_true]
    exact ⟨mvT hZ (hw _ (List.mem_of_getElem? (i := 153) rfl)), mvT hZ (hw _ (List.mem_of_getElem? (i := 154) rfl)), mvT hZ (hw _ (List.mem_of_getElem? (i := 155) rfl))⟩
  obtain ⟨v6, vm6, ⟨T6, L6, k6, n6⟩, -, X6, po6, st6⟩ := Jvm.LawKit.callS X5 hx (y := (⟨"java/lang/Integer", "getChars", "(II[B)I"⟩ : MethodName)) hown (mvT hZ (hw _ (List.mem_of_getElem? (i := 151) rfl))) (mvT hZ (hw _ (List.mem_of_getElem? (i := 152) rfl))) (mvT hZ (hw _ (List.mem_of_getElem? (i := 144) rfl))) (mvT hZ (hw _ (List.mem_of_getElem? (i := 153) rfl))) (by decide) (Jvm.Free.SBG.GetChars.pays ⟨wv, nn_, n_ + k_, dn3, cz, dst, a1, DC1, a2, DC2⟩ 0 tabW (mvT hZ (hw _ (List.mem_of_getElem? (i := 144) rfl))) (by decide) (by decide)) (g := (mkF m 30 #[rv b, iv wv, iv zn, iv (zn + zs)] [(.ref dn3), (.int (zn + zs)), (.int wv)])) rfl (by rw [hml]; rfl) (argsL := [(.int wv), (.int (zn + zs)), (.ref dn3)]) (rest := []) (lenOf pd_14 rfl) rfl (by show 2 * 0 + _ ≤ _; exact Nat.le_of_eq rfl) (hb hby d25_30) (fun vm_ hw_ => ⟨(congrArg (fun q : Int32 => #[Value.int wv, .int q, .ref dn3]) eidx), (by decide : ((0 + 1) + 0) ≤ _), (by decide : ((0 + 400) + 0) ≤ _), Jvm.Free.SBG.GetChars.P.move (U := T5) (U' := T5.setVm vm_) (X5.warmed.alike.symm.trans hw_.alike) rfl ⟨(congrArg (fun q : Int32 => #[Value.int wv, .int q, .ref dn3]) eidx), (show T5.heap[dn3]? = some cz from e5 ▸ Az.1), State.isArrayOf_alike hal_ Az.2.1, Az.2.2, (by show cz.slots.size < 2 ^ 31; rw [szA]; omega), (by show n_ + k_ ≤ cz.slots.size; rw [szA]; omega), (by show Jvm.Free.SBG.digits nn_ + Jvm.Free.SBG.GetChars.sgn wv ≤ n_ + k_; omega), hn31, hneg, tb1, tb2, nst, nd1, nd2⟩⟩)
  dsimp only [Pt.U, Pt.locs, Pt.cells, Pt.slots, Jvm.Free.SBG.GetChars.Post] at X6 st6 po6
  obtain ⟨pv6, pg6, pc6, pd6, ph6, pk6, Lg6, pl6, pm6⟩ := po6
  subst pv6 pc6 pd6 pl6
  obtain ⟨oc1, oc2, oc3, oc4, -⟩ := Jvm.Free.SBG.GetChars.outCell_facts ⟨wv, nn_, n_ + k_, dn3, cz, dst, a1, DC1, a2, DC2⟩ hn31 (by show Jvm.Free.SBG.digits nn_ + Jvm.Free.SBG.GetChars.sgn wv ≤ n_ + k_; omega) (fun i hi => by rw [Array.getD_eq_getD_getElem?, Hz i hi]; exact Gz i hi)
  have N6 := Fr.app N4 (fun y hy => by rw [pm6 y hy]; exact gq3 : Fr n0 Lg6)
  have Kq6 : Keep T3.heap T6.heap [dn3] := own_kp (fun y cy hy hc => pk6 y cy hy (show T5.heap[y]? = some cy from e5 ▸ hc)) Az.1 pg6 oc1 oc2 oc3 (Nat.le_trans (Nat.le_of_eq (congrArg Array.size e5.symm)) (Nat.le_of_eq ph6.symm))
  have Bq6 : BA Z T6.heap dn3 za3 := own_ba Az Sz nz pg6 oc1 oc2 oc3 oc4
  have f6_E_b := Exa.keep Ee3 Kq6
  have f6_F_b_value := Fld.keep Fe3 Kq6 (ninS ne_b_dn3 nin0)
  have f6_F_b_coder := Fld.keep Ge3 Kq6 (ninS ne_b_dn3 nin0)
  have f6_F_b_count := Fld.keep He3 Kq6 (ninS ne_b_dn3 nin0)
  have f6_E_dn3 := Exa.keep Ze3 Kq6
  have sz6 := Nat.le_trans sz3 (Kq6).1
  have K6z := Keep.trans K3z Kq6 (allS ko_dn3 all0)
  have O6 := Old.keep O3 Kq6 (allS gq3 all0)
  refine Ends.go (fun _ => st6 _) ?_
  show Ends p.tables e below G (T6.setTop (mkF m 33 #[rv b, iv wv, iv zn, iv (zn + zs)] [(.int (Int32.ofNat (n_ + k_ - (Jvm.Free.SBG.digits nn_ + Jvm.Free.SBG.GetChars.sgn wv))))]))
  refine Ends.go (fun _ => XS.pop X6.here hx rfl (hb hby d25_33) rfl rfl) ?_
  show Ends p.tables e below G (T6.setTop (mkF m 34 #[rv b, iv wv, iv zn, iv (zn + zs)] []))
  refine Ends.go (fun _ => XS.goto X6.here hx rfl (pc0 := 34) (pc' := 48) rfl (hb hby d25_34) (by decide) (by decide)) ?_
  show Ends p.tables e below G (T6.setTop (mkF m 48 #[rv b, iv wv, iv zn, iv (zn + zs)] []))
  refine Ends.go (fun _ => XS.aloadN X6.here hx rfl (hb hby d25_48) rfl rfl) ?_
  show Ends p.tables e below G (T6.setTop (mkF m 49 #[rv b, iv wv, iv zn, iv (zn + zs)] [(.ref b)]))
  refine Ends.go (fun _ => XS.iloadN X6.here hx rfl (hb hby d25_49) rfl) ?_
  show Ends p.tables e below G (T6.setTop (mkF m 50 #[rv b, iv wv, iv zn, iv (zn + zs)] [(.int (zn + zs)), (.ref b)]))
  obtain ⟨T7, h7, X7, e7, W7, st7⟩ := putF X6 hx hZ hown (host := "") (Or.inl (hw _ (List.mem_of_getElem? (i := 81) rfl))) Via.refl rfl f6_F_b_count f6_E_b (Or.inl (hw _ (List.mem_of_getElem? (i := 82) rfl))) (hw _ (List.mem_of_getElem? (i := 41) rfl)) (ty := .int) (by decide) rfl rfl (g := (mkF m 50 #[rv b, iv wv, iv zn, iv (zn + zs)] [(.int (zn + zs)), (.ref b)])) rfl rfl (hb hby d25_50)
  have f7_E_b := f6_E_b.wr W7
  have f7_F_b_value := f6_F_b_value.other W7 (Or.inr (slot_ne (Or.inl (hw _ (List.mem_of_getElem? (i := 55) rfl))) (Or.inl (hw _ (List.mem_of_getElem? (i := 82) rfl))) (by decide) (t := (.array .byte)) (t' := .int) (by decide) (by decide)))
  have f7_F_b_coder := f6_F_b_coder.other W7 (Or.inr (slot_ne (Or.inl (hw _ (List.mem_of_getElem? (i := 57) rfl))) (Or.inl (hw _ (List.mem_of_getElem? (i := 82) rfl))) (by decide) (t := .byte) (t' := .int) (by decide) (by decide)))
  have f7_F_b_count := f6_F_b_count.same W7
  have f7_E_dn3 := f6_E_dn3.wr W7
  have sz7 := Nat.le_trans sz6 (Nat.le_of_eq W7.size.symm)
  have K7 := Keep.wr K6z W7 (Or.inl (List.mem_of_getElem? (i := 0) rfl))
  have N7 := Fr.snoc X7 N6 g_b
  have f7_P_dn3 := BA.other Bq6 W7 (Ne.symm ne_b_dn3)
  have O7 := Old.wr O6 W7 g_b
  refine Ends.go (fun _ => st7 _) ?_
  show Ends p.tables e below G (T7.setTop (mkF m 53 #[rv b, iv wv, iv zn, iv (zn + zs)] []))
  refine Ends.go (fun _ => XS.aloadN X7.here hx rfl (hb hby d25_53) rfl rfl) ?_
  show Ends p.tables e below G (T7.setTop (mkF m 54 #[rv b, iv wv, iv zn, iv (zn + zs)] [(.ref b)]))
  refine own_finR X7 hx Bd.returns rfl Bd.notSynchronized (hb hby d25_54) (Q := (Q25 Z b d zA zn wv A n_ dst a1 a2 DC1 DC2 zc h0 n0)) hG (by decide) (by decide) ?_
  show (Q25 Z b d zA zn wv A n_ dst a1 a2 DC1 DC2 zc h0 n0) _ T7.heap _
  rw [e7]
  exact ⟨dn3, za3, an3, (zn + zs), k_, rfl, N7, K7, ⟨f7_E_b, f7_F_b_value, f7_F_b_coder, f7_F_b_count, f7_P_dn3, f7_E_dn3⟩, hz3, hnk, gq3, ⟨hk1, hk11⟩, hg3⟩
theorem d24_0 : decode jdk_67_method_15_code 0 = .ok (.aload_n 0, 1) := by decide +kernel
theorem d24_1 : decode jdk_67_method_15_code 1 = .ok (.iload_n 1, 1) := by decide +kernel
theorem d24_2 : decode jdk_67_method_15_code 2 = .ok (.invokespecial 53, 3) := by decide +kernel
theorem pd_15 : parseMethodDescriptor "(I)Ljava/lang/AbstractStringBuilder;" = some ⟨[.int], some (.object "java/lang/AbstractStringBuilder")⟩ := by decide +kernel
theorem d24_5 : decode jdk_67_method_15_code 5 = .ok (.pop, 1) := by decide +kernel
theorem d24_6 : decode jdk_67_method_15_code 6 = .ok (.aload_n 0, 1) := by decide +kernel
theorem d24_7 : decode jdk_67_method_15_code 7 = .ok (.areturn, 1) := by decide +kernel
theorem pn_24 : plainName "java/lang/StringBuilder" = true := by first | (simp [plainName, overriddenIn]; done) | decide +kernel
theorem ef_24 (m : MethodId) (x0 : Addr) (x1 : Int32) : entryFrame m #[(.ref x0), (.int x1)] 2 = mkF m 0 #[rv x0, iv x1] [] := by first | (simp [entryFrame, mkF, argsToLocals, Value.category]; done) | rfl
def Q24 (Z : State) (b : Addr) (d : Addr) (zA : Int32) (zn : Int32) (wv : Int32) (A : Nat) (n_ : Nat) (dst : Addr) (a1 : Addr) (a2 : Addr) (DC1 : Cell) (DC2 : Cell) (zc : Int32) (h0 : Heap) (n0 : Nat) (v : Option Value) (h : Heap) (L : List Loc) : Prop := ∃ (d' : Addr) (zA' : Int32) (A' : Nat) (zn' : Int32) (k_ : Nat), v = some (.ref b) ∧ Fr n0 L ∧ Keep h0 h [b, d] ∧ SBF Z h b d' zA' zn' ∧ zA'.toInt = (A' : Int) ∧ zn'.toInt = ((n_ + k_ : Nat) : Int) ∧ n0 ≤ d' ∧ (1 ≤ k_ ∧ k_ ≤ 11) ∧ (((n_ + k_) ≤ A ∧ A' = A ∧ d' = d) ∨ (A < (n_ + k_) ∧ h0.size ≤ d' ∧ ∃ k, A' = A + k ∧ (n_ + k_) - A ≤ k ∧ A + 2 ≤ k ∧ (k = (n_ + k_) - A ∨ k = A + 2)))
set_option maxRecDepth 65536 in
set_option maxHeartbeats 40000000 in
theorem rm24 (l : Launch) (Z : State) (a0 : Array Value) (hw : ∀ d ∈ tables_1, d.before a0 Z = true) (ws : List Jvm.Cond) (b : Addr) (d : Addr) (zA : Int32) (zn : Int32) (wv : Int32) (A : Nat) (n_ : Nat) (dst : Addr) (a1 : Addr) (a2 : Addr) (DC1 : Cell) (DC2 : Cell) (zc : Int32) (h0 : Heap) (n0 : Nat) (Z0 : n0 ≤ h0.size) (O0 : Old Z n0 h0) (SC : Sta Z Z.heap "java/lang/String" "COMPACT_STRINGS" "Z" (.int zc)) (hzc : ¬ (zc = (0 : Int32))) (TB1 : Jvm.Free.SBG.Tbl Z "DigitOnes" dst a1 DC1) (TB2 : Jvm.Free.SBG.Tbl Z "DigitTens" dst a2 DC2) (SB : SBF Z h0 b d zA zn) (g_b : n0 ≤ b) (g_d : n0 ≤ d) (hA : zA.toInt = (A : Int)) (hn_ : zn.toInt = (n_ : Int)) (hbd : n_ ≤ A ∧ A ≤ 100) :
    MetFree l (⟨"java/lang/StringBuilder", "append", "(I)Ljava/lang/StringBuilder;"⟩ : MethodName) (head1 (Jvm.Cond.code (⟨"java/lang/StringBuilder", "append", "(I)Ljava/lang/StringBuilder;"⟩ : MethodName) jdk_67_method_15_code 2 (some (.object "java/lang/StringBuilder")) :: ws) ({ frames := 6, cells := 1, slots := 400, locals := 120 } : Room)) (fun a U => a = #[(.ref b), (.int wv)] ∧ Z.Warmed39 U.vm ∧ U.heap = h0) (fun _ _ _ _ _ => True) (fun _ U o U' => ∃ v L, o = .returned v ∧ Q24 Z b d zA zn wv A n_ dst a1 a2 DC1 DC2 zc h0 n0 v U'.heap L ∧ FrameEnd U o U' L ({ frames := 6, cells := 1, slots := 400, locals := 120 } : Room).cells ({ frames := 6, cells := 1, slots := 400, locals := 120 } : Room).slots) := by
  refine MetFree.of_bodySF (plainFor_of_name pn_24) hisR ?_
  intro p e s m args below meth c s₁ Bd hml0 hP hK
  obtain ⟨rfl, hZ, hh⟩ := hP
  have hx := Bd.exec
  have hby := Bd.bytes
  have hml : c.maxLocals = 2 := hml0
  have hown : s.vm.findClass "java/lang/StringBuilder" = some m.cls := findClass_of_methodNamed Bd.named
  have hnm := (name_of_methodNamed Bd.named Bd.method).1
  have X0 : Stand p l e ({ frames := 6, cells := 1, slots := 400, locals := 120 } : Room) s m #[(.ref b), (.int wv)] below meth c s₁ [] 0 0 := Stand.of_body Bd
  have e0 : s₁.heap = h0 := by rw [← hh, Bd.state]; rfl
  have N0 := Fr.nil n0
  show Ends p.tables e below (fun (s₂ : State) (o : Outcome) => ∃ v L, o = .returned v ∧ (Q24 Z b d zA zn wv A n_ dst a1 a2 DC1 DC2 zc h0 n0) v s₂.heap L ∧ FrameEnd s o s₂ L ({ frames := 6, cells := 1, slots := 400, locals := 120 } : Room).cells ({ frames := 6, cells := 1, slots := 400, locals := 120 } : Room).slots) (s₁.setTop (entryFrame m #[(.ref b), (.int wv)] 2))
  refine Ends.any fun G hG => ?_
  refine Ends.go (fun t k => castTop (ef_24 m b wv) k) ?_
  show Ends p.tables e below G (s₁.setTop (mkF m 0 #[rv b, iv wv] []))
  obtain ⟨Eb_b, Fv_b, Fc_b, Fn_b, Ba_b, Ea_b⟩ := SB
  have ne_b_d : b ≠ d := Exa.ne Eb_b Ea_b (by decide)
  refine Ends.go (fun _ => XS.aloadN X0.here hx rfl (hb hby d24_0) rfl rfl) ?_
  show Ends p.tables e below G (s₁.setTop (mkF m 1 #[rv b, iv wv] [(.ref b)]))
  refine Ends.go (fun _ => XS.iloadN X0.here hx rfl (hb hby d24_1) rfl) ?_
  show Ends p.tables e below G (s₁.setTop (mkF m 2 #[rv b, iv wv] [(.int wv), (.ref b)]))
  obtain ⟨_, _, ⟨T1, L1, k1, n1⟩, -, X1, ⟨Lc1, hQ1, l1, y1, z1⟩, st1⟩ := superBack X0 hx hZ (y := (⟨"java/lang/AbstractStringBuilder", "append", "(I)Ljava/lang/AbstractStringBuilder;"⟩ : MethodName)) hown (hw _ (List.mem_of_getElem? (i := 138) rfl)) (own_same (y := (⟨"java/lang/AbstractStringBuilder", "append", "(I)Ljava/lang/AbstractStringBuilder;"⟩ : MethodName)) (y2 := (⟨"java/lang/AbstractStringBuilder", "ensureCapacityInternal", "(I)V"⟩ : MethodName)) rfl (hw _ (List.mem_of_getElem? (i := 86) rfl)) (hw _ (List.mem_of_getElem? (i := 139) rfl)) (by decide)) (hw _ (List.mem_of_getElem? (i := 139) rfl)) (hw _ (List.mem_of_getElem? (i := 68) rfl)) (by decide) (backOf (W := 0) (rm25 l Z a0 hw [] b d zA zn wv A n_ dst a1 a2 DC1 DC2 zc h0 n0 Z0 O0 SC hzc TB1 TB2 ⟨Eb_b, Fv_b, Fc_b, Fn_b, Ba_b, Ea_b⟩ g_b g_d hA hn_ hbd) hZ (hw _ (List.mem_of_getElem? (i := 141) rfl)) (hw _ (List.mem_of_getElem? (i := 50) rfl)) (by decide) (by decide)) e0 (Ins.self Eb_b) (g := (mkF m 2 #[rv b, iv wv] [(.int wv), (.ref b)])) rfl (by rw [hml]; rfl) (hw _ (List.mem_of_getElem? (i := 141) rfl)) (argsL := [(.int wv)]) (rest := []) (lenOf pd_15 rfl) rfl (by show 2 * 0 + _ ≤ _; exact Nat.le_of_eq rfl) (hb hby d24_2) (fun _ _ => ⟨rfl, e0, (by decide : 0 + 1 ≤ _), (by decide : 0 + 400 ≤ _)⟩)
  dsimp only [Pt.U, Pt.locs, Pt.cells, Pt.slots] at X1 l1 y1 z1 st1 hQ1
  subst l1 y1 z1
  obtain ⟨dn1, za1, an1, zq1, kd1, rfl, N1q, Kq1, Sq1, hz1, hq1, gq1, hk1, hg1⟩ := hQ1
  have N1 := Fr.app N0 N1q
  have f1_E_b := Exa.keep Eb_b Kq1
  have f1_E_d := Exa.keep Ea_b Kq1
  have sz1 := Nat.le_trans Z0 (Kq1).1
  have K1z := Keep.trans (Keep.refl h0 [b, d]) Kq1 (allS (Or.inl (List.mem_of_getElem? (i := 0) rfl)) (allS (Or.inl (List.mem_of_getElem? (i := 1) rfl)) all0))
  have O1 := Old.keep O0 Kq1 (allS g_b (allS g_d all0))
  obtain ⟨Ee1, Fe1, Ge1, He1, Be1, Ze1⟩ := Sq1
  refine Ends.go (fun _ => st1.trans) ?_
  show Ends p.tables e below G (T1.setTop (mkF m 5 #[rv b, iv wv] [(.ref b)]))
  refine Ends.go (fun _ => XS.pop X1.here hx rfl (hb hby d24_5) rfl rfl) ?_
  show Ends p.tables e below G (T1.setTop (mkF m 6 #[rv b, iv wv] []))
  refine Ends.go (fun _ => XS.aloadN X1.here hx rfl (hb hby d24_6) rfl rfl) ?_
  show Ends p.tables e below G (T1.setTop (mkF m 7 #[rv b, iv wv] [(.ref b)]))
  refine own_finR X1 hx Bd.returns rfl Bd.notSynchronized (hb hby d24_7) (Q := (Q24 Z b d zA zn wv A n_ dst a1 a2 DC1 DC2 zc h0 n0)) hG (by decide) (by decide) ?_
  show (Q24 Z b d zA zn wv A n_ dst a1 a2 DC1 DC2 zc h0 n0) _ T1.heap _
  exact ⟨dn1, za1, an1, zq1, kd1, rfl, N1, K1z, ⟨Ee1, Fe1, Ge1, He1, Be1, Ze1⟩, hz1, hq1, gq1, hk1, hg1⟩
theorem d37_0 : decode jdk_65_method_131_code 0 = .ok (.iload_n 1, 1) := by decide +kernel
theorem d37_1 : decode jdk_65_method_131_code 1 = .ok (.iload_n 0, 1) := by decide +kernel
theorem d37_2 : decode jdk_65_method_131_code 2 = .ok (.if_icmp .ge 35, 3) := by decide +kernel
theorem d37_5 : decode jdk_65_method_131_code 5 = .ok (.new 43, 3) := by decide +kernel
theorem d37_8 : decode jdk_65_method_131_code 8 = .ok (.dup, 1) := by decide +kernel
theorem d37_9 : decode jdk_65_method_131_code 9 = .ok (.new 45, 3) := by decide +kernel
theorem d37_12 : decode jdk_65_method_131_code 12 = .ok (.dup, 1) := by decide +kernel
theorem d37_13 : decode jdk_65_method_131_code 13 = .ok (.invokespecial 47, 3) := by decide +kernel
theorem d37_16 : decode jdk_65_method_131_code 16 = .ok (.iload_n 0, 1) := by decide +kernel
theorem d37_17 : decode jdk_65_method_131_code 17 = .ok (.invokevirtual 54, 3) := by decide +kernel
theorem d37_20 : decode jdk_65_method_131_code 20 = .ok (.ldc_w 337, 3) := by decide +kernel
theorem d37_23 : decode jdk_65_method_131_code 23 = .ok (.invokevirtual 50, 3) := by decide +kernel
theorem d37_26 : decode jdk_65_method_131_code 26 = .ok (.iload_n 1, 1) := by decide +kernel
theorem d37_27 : decode jdk_65_method_131_code 27 = .ok (.invokevirtual 54, 3) := by decide +kernel
theorem d37_30 : decode jdk_65_method_131_code 30 = .ok (.invokevirtual 61, 3) := by decide +kernel
theorem d37_33 : decode jdk_65_method_131_code 33 = .ok (.invokespecial 65, 3) := by decide +kernel
theorem d37_36 : decode jdk_65_method_131_code 36 = .ok (.athrow, 1) := by decide +kernel
theorem d37_37 : decode jdk_65_method_131_code 37 = .ok (.return_, 1) := by decide +kernel
theorem pn_37 : plainName "java/util/Arrays" = true := by first | (simp [plainName, overriddenIn]; done) | decide +kernel
theorem ef_37 (m : MethodId) (x0 : Int32) (x1 : Int32) : entryFrame m #[(.int x0), (.int x1)] 2 = mkF m 0 #[iv x0, iv x1] [] := by first | (simp [entryFrame, mkF, argsToLocals, Value.category]; done) | rfl
def Q37 (Z : State) (za : Int32) (zb : Int32) (h0 : Heap) (n0 : Nat) (v : Option Value) (h : Heap) (L : List Loc) : Prop := v = none ∧ Fr n0 L ∧ h = h0
set_option maxRecDepth 65536 in
set_option maxHeartbeats 40000000 in
theorem rm37 (l : Launch) (Z : State) (a0 : Array Value) (hw : ∀ d ∈ tables_1, d.before a0 Z = true) (ws : List Jvm.Cond) (za : Int32) (zb : Int32) (h0 : Heap) (n0 : Nat) (Z0 : n0 ≤ h0.size) (hle : ¬ (zb < za)) :
    MetFree l (⟨"java/util/Arrays", "checkLength", "(II)V"⟩ : MethodName) (head1 (Jvm.Cond.code (⟨"java/util/Arrays", "checkLength", "(II)V"⟩ : MethodName) jdk_65_method_131_code 2 none :: ws) ({ frames := 1, cells := 0, slots := 0, locals := 20 } : Room)) (fun a U => a = #[(.int za), (.int zb)] ∧ Z.Warmed39 U.vm ∧ U.heap = h0) (fun _ _ _ _ _ => True) (fun _ U o U' => ∃ v L, o = .returned v ∧ Q37 Z za zb h0 n0 v U'.heap L ∧ FrameEnd U o U' L ({ frames := 1, cells := 0, slots := 0, locals := 20 } : Room).cells ({ frames := 1, cells := 0, slots := 0, locals := 20 } : Room).slots) := by
  refine MetFree.of_bodySF (plainFor_of_name pn_37) hisR ?_
  intro p e s m args below meth c s₁ Bd hml0 hP hK
  obtain ⟨rfl, hZ, hh⟩ := hP
  have hx := Bd.exec
  have hby := Bd.bytes
  have hml : c.maxLocals = 2 := hml0
  have hown : s.vm.findClass "java/util/Arrays" = some m.cls := findClass_of_methodNamed Bd.named
  have hnm := (name_of_methodNamed Bd.named Bd.method).1
  have X0 : Stand p l e ({ frames := 1, cells := 0, slots := 0, locals := 20 } : Room) s m #[(.int za), (.int zb)] below meth c s₁ [] 0 0 := Stand.of_body Bd
  have e0 : s₁.heap = h0 := by rw [← hh, Bd.state]; rfl
  have N0 := Fr.nil n0
  show Ends p.tables e below (fun (s₂ : State) (o : Outcome) => ∃ v L, o = .returned v ∧ (Q37 Z za zb h0 n0) v s₂.heap L ∧ FrameEnd s o s₂ L ({ frames := 1, cells := 0, slots := 0, locals := 20 } : Room).cells ({ frames := 1, cells := 0, slots := 0, locals := 20 } : Room).slots) (s₁.setTop (entryFrame m #[(.int za), (.int zb)] 2))
  refine Ends.any fun G hG => ?_
  refine Ends.go (fun t k => castTop (ef_37 m za zb) k) ?_
  show Ends p.tables e below G (s₁.setTop (mkF m 0 #[iv za, iv zb] []))
  refine Ends.go (fun _ => XS.iloadN X0.here hx rfl (hb hby d37_0) rfl) ?_
  show Ends p.tables e below G (s₁.setTop (mkF m 1 #[iv za, iv zb] [(.int zb)]))
  refine Ends.go (fun _ => XS.iloadN X0.here hx rfl (hb hby d37_1) rfl) ?_
  show Ends p.tables e below G (s₁.setTop (mkF m 2 #[iv za, iv zb] [(.int za), (.int zb)]))
  refine Ends.go (fun _ => XS.icmpYes X0.here hx rfl (pc0 := 2) (pc' := 37) rfl (hb hby d37_2) rfl (flt (hle : ¬ (zb < za))).2.1 (by decide) (by decide)) ?_
  show Ends p.tables e below G (s₁.setTop (mkF m 37 #[iv za, iv zb] []))
  refine own_finN X0 hx Bd.returns Bd.notSynchronized (hb hby d37_37) (Q := (Q37 Z za zb h0 n0)) hG (by decide) (by decide) ?_
  show (Q37 Z za zb h0 n0) _ s₁.heap _
  rw [e0]
  exact ⟨rfl, N0, rfl⟩
theorem own_sub0 (z : Int32) : z - (0 : Int32) = z := by
  apply Int32.toInt_inj.mp
  have q1 := c_isub z 0
  have q2 := rng32 (z - 0)
  have q3 := rng32 z
  have o0 : (0 : Int32).toInt = 0 := rfl
  omega
theorem d36_0 : decode jdk_65_method_133_code 0 = .ok (.iload_n 1, 1) := by decide +kernel
theorem d36_1 : decode jdk_65_method_133_code 1 = .ok (.iload_n 2, 1) := by decide +kernel
theorem d36_2 : decode jdk_65_method_133_code 2 = .ok (.invokestatic 343, 3) := by decide +kernel
theorem pd_16 : parseMethodDescriptor "(II)V" = some ⟨[.int, .int], none⟩ := by decide +kernel
theorem d36_5 : decode jdk_65_method_133_code 5 = .ok (.iload_n 2, 1) := by decide +kernel
theorem d36_6 : decode jdk_65_method_133_code 6 = .ok (.iload_n 1, 1) := by decide +kernel
theorem d36_7 : decode jdk_65_method_133_code 7 = .ok (.isub, 1) := by decide +kernel
theorem d36_8 : decode jdk_65_method_133_code 8 = .ok (.istore_n 3, 1) := by decide +kernel
theorem d36_9 : decode jdk_65_method_133_code 9 = .ok (.iload_n 3, 1) := by decide +kernel
theorem d36_10 : decode jdk_65_method_133_code 10 = .ok (.newarray .byte, 2) := by decide +kernel
theorem d36_12 : decode jdk_65_method_133_code 12 = .ok (.astore 4, 2) := by decide +kernel
theorem d36_14 : decode jdk_65_method_133_code 14 = .ok (.aload_n 0, 1) := by decide +kernel
theorem d36_15 : decode jdk_65_method_133_code 15 = .ok (.iload_n 1, 1) := by decide +kernel
theorem d36_16 : decode jdk_65_method_133_code 16 = .ok (.aload 4, 2) := by decide +kernel
theorem d36_18 : decode jdk_65_method_133_code 18 = .ok (.iconst 0, 1) := by decide +kernel
theorem d36_19 : decode jdk_65_method_133_code 19 = .ok (.aload_n 0, 1) := by decide +kernel
theorem d36_20 : decode jdk_65_method_133_code 20 = .ok (.arraylength, 1) := by decide +kernel
theorem d36_21 : decode jdk_65_method_133_code 21 = .ok (.iload_n 1, 1) := by decide +kernel
theorem d36_22 : decode jdk_65_method_133_code 22 = .ok (.isub, 1) := by decide +kernel
theorem d36_23 : decode jdk_65_method_133_code 23 = .ok (.iload_n 3, 1) := by decide +kernel
theorem d36_24 : decode jdk_65_method_133_code 24 = .ok (.invokestatic 304, 3) := by decide +kernel
theorem d36_27 : decode jdk_65_method_133_code 27 = .ok (.invokestatic 150, 3) := by decide +kernel
theorem d36_30 : decode jdk_65_method_133_code 30 = .ok (.aload 4, 2) := by decide +kernel
theorem d36_32 : decode jdk_65_method_133_code 32 = .ok (.areturn, 1) := by decide +kernel
theorem pn_36 : plainName "java/util/Arrays" = true := by first | (simp [plainName, overriddenIn]; done) | decide +kernel
theorem ef_36 (m : MethodId) (x0 : Addr) (x1 : Int32) (x2 : Int32) : entryFrame m #[(.ref x0), (.int x1), (.int x2)] 5 = mkF m 0 #[rv x0, iv x1, iv x2, un, un] [] := by first | (simp [entryFrame, mkF, argsToLocals, Value.category]; done) | rfl
def Q36 (Z : State) (d : Addr) (zA : Int32) (zn : Int32) (A : Nat) (n_ : Nat) (h0 : Heap) (n0 : Nat) (v : Option Value) (h : Heap) (L : List Loc) : Prop := ∃ d', v = some (.ref d') ∧ Fr n0 L ∧ Keep h0 h []
set_option maxRecDepth 65536 in
set_option maxHeartbeats 40000000 in
theorem rm36 (l : Launch) (Z : State) (a0 : Array Value) (hw : ∀ d ∈ tables_1, d.before a0 Z = true) (ws : List Jvm.Cond) (d : Addr) (zA : Int32) (zn : Int32) (A : Nat) (n_ : Nat) (h0 : Heap) (n0 : Nat) (Z0 : n0 ≤ h0.size) (O0 : Old Z n0 h0) (BD : BA Z h0 d zA) (ED : Exa Z h0 d "[B") (hA : zA.toInt = (A : Int)) (hn_ : zn.toInt = (n_ : Int)) (hbd : n_ ≤ A ∧ A ≤ 300 ∧ n_ ≤ 100) :
    MetFree l (⟨"java/util/Arrays", "copyOfRangeByte", "([BII)[B"⟩ : MethodName) (head1 (Jvm.Cond.code (⟨"java/util/Arrays", "copyOfRangeByte", "([BII)[B"⟩ : MethodName) jdk_65_method_133_code 5 (some (.array .byte)) :: ws) ({ frames := 2, cells := 1, slots := 150, locals := 40 } : Room)) (fun a U => a = #[(.ref d), (.int (0 : Int32)), (.int zn)] ∧ Z.Warmed39 U.vm ∧ U.heap = h0) (fun _ _ _ _ _ => True) (fun _ U o U' => ∃ v L, o = .returned v ∧ Q36 Z d zA zn A n_ h0 n0 v U'.heap L ∧ FrameEnd U o U' L ({ frames := 2, cells := 1, slots := 150, locals := 40 } : Room).cells ({ frames := 2, cells := 1, slots := 150, locals := 40 } : Room).slots) := by
  refine MetFree.of_bodySF (plainFor_of_name pn_36) hisR ?_
  intro p e s m args below meth c s₁ Bd hml0 hP hK
  obtain ⟨rfl, hZ, hh⟩ := hP
  have hx := Bd.exec
  have hby := Bd.bytes
  have hml : c.maxLocals = 5 := hml0
  have hown : s.vm.findClass "java/util/Arrays" = some m.cls := findClass_of_methodNamed Bd.named
  have hnm := (name_of_methodNamed Bd.named Bd.method).1
  have X0 : Stand p l e ({ frames := 2, cells := 1, slots := 150, locals := 40 } : Room) s m #[(.ref d), (.int (0 : Int32)), (.int zn)] below meth c s₁ [] 0 0 := Stand.of_body Bd
  have e0 : s₁.heap = h0 := by rw [← hh, Bd.state]; rfl
  have N0 := Fr.nil n0
  show Ends p.tables e below (fun (s₂ : State) (o : Outcome) => ∃ v L, o = .returned v ∧ (Q36 Z d zA zn A n_ h0 n0) v s₂.heap L ∧ FrameEnd s o s₂ L ({ frames := 2, cells := 1, slots := 150, locals := 40 } : Room).cells ({ frames := 2, cells := 1, slots := 150, locals := 40 } : Room).slots) (s₁.setTop (entryFrame m #[(.ref d), (.int (0 : Int32)), (.int zn)] 5))
  refine Ends.any fun G hG => ?_
  refine Ends.go (fun t k => castTop (ef_36 m d (0 : Int32) zn) k) ?_
  show Ends p.tables e below G (s₁.setTop (mkF m 0 #[rv d, iv (0 : Int32), iv zn, un, un] []))
  refine Ends.go (fun _ => XS.iloadN X0.here hx rfl (hb hby d36_0) rfl) ?_
  show Ends p.tables e below G (s₁.setTop (mkF m 1 #[rv d, iv (0 : Int32), iv zn, un, un] [(.int (0 : Int32))]))
  refine Ends.go (fun _ => XS.iloadN X0.here hx rfl (hb hby d36_1) rfl) ?_
  show Ends p.tables e below G (s₁.setTop (mkF m 2 #[rv d, iv (0 : Int32), iv zn, un, un] [(.int zn), (.int (0 : Int32))]))
  obtain ⟨_, _, ⟨T1, L1, k1, n1⟩, -, X1, ⟨Lc1, hQ1, l1, y1, z1⟩, st1⟩ := Jvm.LawKit.callS X0 hx (y := (⟨"java/util/Arrays", "checkLength", "(II)V"⟩ : MethodName)) hown (mvT hZ (hw _ (List.mem_of_getElem? (i := 189) rfl))) (mvT hZ (hw _ (List.mem_of_getElem? (i := 190) rfl))) (mvT hZ (hw _ (List.mem_of_getElem? (i := 105) rfl))) (mvT hZ (hw _ (List.mem_of_getElem? (i := 191) rfl))) (by decide) (backOf (W := 0) (rm37 l Z a0 hw [] (0 : Int32) zn h0 n0 Z0 (by rw [Int32.lt_iff_toInt_lt, hn_]; have o0 : (0 : Int32).toInt = 0 := rfl; omega)) hZ (hw _ (List.mem_of_getElem? (i := 191) rfl)) (hw _ (List.mem_of_getElem? (i := 105) rfl)) (by decide) (by decide)) (g := (mkF m 2 #[rv d, iv (0 : Int32), iv zn, un, un] [(.int zn), (.int (0 : Int32))])) rfl (by rw [hml]; rfl) (argsL := [(.int (0 : Int32)), (.int zn)]) (rest := []) (lenOf pd_16 rfl) rfl (by show 2 * 0 + _ ≤ _; exact Nat.le_of_eq rfl) (hb hby d36_2) (fun _ _ => ⟨rfl, e0, (by decide : 0 + 0 ≤ _), (by decide : 0 + 0 ≤ _)⟩)
  dsimp only [Pt.U, Pt.locs, Pt.cells, Pt.slots] at X1 l1 y1 z1 st1 hQ1
  subst l1 y1 z1
  obtain ⟨rfl, N1q, e1⟩ := hQ1
  have N1 := Fr.app N0 N1q
  refine Ends.go (fun _ => st1 _) ?_
  show Ends p.tables e below G (T1.setTop (mkF m 5 #[rv d, iv (0 : Int32), iv zn, un, un] []))
  refine Ends.go (fun _ => XS.iloadN X1.here hx rfl (hb hby d36_5) rfl) ?_
  show Ends p.tables e below G (T1.setTop (mkF m 6 #[rv d, iv (0 : Int32), iv zn, un, un] [(.int zn)]))
  refine Ends.go (fun _ => XS.iloadN X1.here hx rfl (hb hby d36_6) rfl) ?_
  show Ends p.tables e below G (T1.setTop (mkF m 7 #[rv d, iv (0 : Int32), iv zn, un, un] [(.int (0 : Int32)), (.int zn)]))
  refine Ends.go (fun _ => XS.isub X1.here hx rfl (hb hby d36_7) rfl) ?_
  show Ends p.tables e below G (T1.setTop (mkF m 8 #[rv d, iv (0 : Int32), iv zn, un, un] [(.int (zn - (0 : Int32)))]))
  rw [show (zn - (0 : Int32)) = zn from own_sub0 zn]
  show Ends p.tables e below G (T1.setTop (mkF m 8 #[rv d, iv (0 : Int32), iv zn, un, un] [(.int zn)]))
  refine Ends.go (fun _ => XS.istoreN (g := (mkF m 8 #[rv d, iv (0 : Int32), iv zn, un, un] [(.int zn)])) X1.here hx rfl (hb hby d36_8) rfl (l' := #[rv d, iv (0 : Int32), iv zn, iv zn, un]) rfl) ?_
  show Ends p.tables e below G (T1.setTop (mkF m 9 #[rv d, iv (0 : Int32), iv zn, iv zn, un] []))
  refine Ends.go (fun _ => XS.iloadN X1.here hx rfl (hb hby d36_9) rfl) ?_
  show Ends p.tables e below G (T1.setTop (mkF m 10 #[rv d, iv (0 : Int32), iv zn, iv zn, un] [(.int zn)]))
  obtain ⟨T2, h2, k2, X2, e2, E2, A2, Y2, st2⟩ := newPE X1 hx hZ (hw _ (List.mem_of_getElem? (i := 23) rfl)) e1 (g := (mkF m 10 #[rv d, iv (0 : Int32), iv zn, iv zn, un] [(.int zn)])) rfl (hb hby d36_10) rfl (by rw [Int32.lt_iff_toInt_lt, hn_]; have o0 : (0 : Int32).toInt = 0 := rfl; omega) (cap := 150) (by rw [own_tn hn_]; omega) (by decide) (by decide) (by decide) (ad := "[B") (by decide)
  obtain ⟨b2, g2⟩ : ∃ z, z = h0.size := ⟨_, rfl⟩
  rw [← g2] at A2 Y2 st2
  have g_b2 : n0 ≤ b2 := Nat.le_trans Z0 (Nat.le_of_eq g2.symm)
  have szo_b2 : h0.size ≤ b2 := Nat.le_trans ((Keep.refl h0 [])).1 (Nat.le_of_eq g2.symm)
  have ne_d_b2 : d ≠ b2 := Nat.ne_of_lt (Nat.lt_of_lt_of_le ED.lt (Nat.le_of_eq g2.symm))
  have f2_P_d := BA.ext BD E2
  have f2_E_d := ED.ext E2
  have sz2 := Nat.le_trans Z0 E2.1
  have K2 := Keep.ext (Keep.refl h0 []) E2
  have O2 := Old.ext O0 E2
  have V2 : BA Z h2 b2 zn := BA.new A2 (by rw [Int32.lt_iff_toInt_lt, hn_]; have o0 : (0 : Int32).toInt = 0 := rfl; omega)
  refine Ends.go (fun _ => st2 _) ?_
  show Ends p.tables e below G (T2.setTop (mkF m 12 #[rv d, iv (0 : Int32), iv zn, iv zn, un] [(.ref b2)]))
  refine Ends.go (fun _ => XS.astore (g := (mkF m 12 #[rv d, iv (0 : Int32), iv zn, iv zn, un] [(.ref b2)])) X2.here hx rfl (hb hby d36_12) rfl rfl (l' := #[rv d, iv (0 : Int32), iv zn, iv zn, rv b2]) rfl) ?_
  show Ends p.tables e below G (T2.setTop (mkF m 14 #[rv d, iv (0 : Int32), iv zn, iv zn, rv b2] []))
  refine Ends.go (fun _ => XS.aloadN X2.here hx rfl (hb hby d36_14) rfl rfl) ?_
  show Ends p.tables e below G (T2.setTop (mkF m 15 #[rv d, iv (0 : Int32), iv zn, iv zn, rv b2] [(.ref d)]))
  refine Ends.go (fun _ => XS.iloadN X2.here hx rfl (hb hby d36_15) rfl) ?_
  show Ends p.tables e below G (T2.setTop (mkF m 16 #[rv d, iv (0 : Int32), iv zn, iv zn, rv b2] [(.int (0 : Int32)), (.ref d)]))
  refine Ends.go (fun _ => XS.aload X2.here hx rfl (hb hby d36_16) rfl rfl) ?_
  show Ends p.tables e below G (T2.setTop (mkF m 18 #[rv d, iv (0 : Int32), iv zn, iv zn, rv b2] [(.ref b2), (.int (0 : Int32)), (.ref d)]))
  refine Ends.go (fun _ => XS.iconst X2.here hx rfl (hb hby d36_18)) ?_
  show Ends p.tables e below G (T2.setTop (mkF m 19 #[rv d, iv (0 : Int32), iv zn, iv zn, rv b2] [(.int (0 : Int32)), (.ref b2), (.int (0 : Int32)), (.ref d)]))
  refine Ends.go (fun _ => XS.aloadN X2.here hx rfl (hb hby d36_19) rfl rfl) ?_
  show Ends p.tables e below G (T2.setTop (mkF m 20 #[rv d, iv (0 : Int32), iv zn, iv zn, rv b2] [(.ref d), (.int (0 : Int32)), (.ref b2), (.int (0 : Int32)), (.ref d)]))
  refine Ends.go (fun _ => BA.len f2_P_d X2 hx hZ e2 (g := (mkF m 20 #[rv d, iv (0 : Int32), iv zn, iv zn, rv b2] [(.ref d), (.int (0 : Int32)), (.ref b2), (.int (0 : Int32)), (.ref d)])) rfl rfl (hb hby d36_20) _) ?_
  show Ends p.tables e below G (T2.setTop (mkF m 21 #[rv d, iv (0 : Int32), iv zn, iv zn, rv b2] [(.int zA), (.int (0 : Int32)), (.ref b2), (.int (0 : Int32)), (.ref d)]))
  refine Ends.go (fun _ => XS.iloadN X2.here hx rfl (hb hby d36_21) rfl) ?_
  show Ends p.tables e below G (T2.setTop (mkF m 22 #[rv d, iv (0 : Int32), iv zn, iv zn, rv b2] [(.int (0 : Int32)), (.int zA), (.int (0 : Int32)), (.ref b2), (.int (0 : Int32)), (.ref d)]))
  refine Ends.go (fun _ => XS.isub X2.here hx rfl (hb hby d36_22) rfl) ?_
  show Ends p.tables e below G (T2.setTop (mkF m 23 #[rv d, iv (0 : Int32), iv zn, iv zn, rv b2] [(.int (zA - (0 : Int32))), (.int (0 : Int32)), (.ref b2), (.int (0 : Int32)), (.ref d)]))
  refine Ends.go (fun _ => XS.iloadN X2.here hx rfl (hb hby d36_23) rfl) ?_
  show Ends p.tables e below G (T2.setTop (mkF m 24 #[rv d, iv (0 : Int32), iv zn, iv zn, rv b2] [(.int zn), (.int (zA - (0 : Int32))), (.int (0 : Int32)), (.ref b2), (.int (0 : Int32)), (.ref d)]))
  rw [show (zA - (0 : Int32)) = zA from own_sub0 zA]
  show Ends p.tables e below G (T2.setTop (mkF m 24 #[rv d, iv (0 : Int32), iv zn, iv zn, rv b2] [(.int zn), (.int zA), (.int (0 : Int32)), (.ref b2), (.int (0 : Int32)), (.ref d)]))
  obtain ⟨_, _, ⟨T3, L3, k3, n3⟩, -, X3, ⟨Lc3, hQ3, l3, y3, z3⟩, st3⟩ := Jvm.LawKit.callS X2 hx (y := (⟨"java/lang/Math", "min", "(II)I"⟩ : MethodName)) hown (mvT hZ (hw _ (List.mem_of_getElem? (i := 107) rfl))) (mvT hZ (hw _ (List.mem_of_getElem? (i := 108) rfl))) (mvT hZ (hw _ (List.mem_of_getElem? (i := 99) rfl))) (mvT hZ (hw _ (List.mem_of_getElem? (i := 109) rfl))) (by decide) (backOf (W := 4) (rm20 l Z a0 hw [] zA zn h2 n0 sz2) hZ (hw _ (List.mem_of_getElem? (i := 109) rfl)) (hw _ (List.mem_of_getElem? (i := 99) rfl)) (by decide) (by decide)) (g := (mkF m 24 #[rv d, iv (0 : Int32), iv zn, iv zn, rv b2] [(.int zn), (.int zA), (.int (0 : Int32)), (.ref b2), (.int (0 : Int32)), (.ref d)])) rfl (by rw [hml]; rfl) (argsL := [(.int zA), (.int zn)]) (rest := [(.int (0 : Int32)), (.ref b2), (.int (0 : Int32)), (.ref d)]) (lenOf pd_2 rfl) rfl (by show 2 * 0 + _ ≤ _; exact Nat.le_of_eq rfl) (hb hby d36_24) (fun _ _ => ⟨rfl, e2, (by decide : ((0 + 0) + 1) + 0 ≤ _), (by decide : ((0 + 0) + 150) + 0 ≤ _)⟩)
  dsimp only [Pt.U, Pt.locs, Pt.cells, Pt.slots] at X3 l3 y3 z3 st3 hQ3
  subst l3 y3 z3
  obtain ⟨rr3, rfl, N3q, e3, hr3⟩ := hQ3
  have N3 := Fr.app N1 N3q
  refine Ends.go (fun _ => st3 _) ?_
  show Ends p.tables e below G (T3.setTop (mkF m 27 #[rv d, iv (0 : Int32), iv zn, iv zn, rv b2] [(.int rr3), (.int (0 : Int32)), (.ref b2), (.int (0 : Int32)), (.ref d)]))
  have hm3 : rr3.toInt = (n_ : Int) := by
    rcases hr3 with ⟨rfl, hl⟩ | ⟨rfl, hl⟩
    · rw [own_lt hn_ hA] at hl; rw [hA]; congr 1; omega
    · exact hn_
  obtain ⟨T4, h4, L4, X4, e4, N4, K4, V4, st4⟩ := BA.cp f2_P_d V2 X3 hx hZ hown (hw _ (List.mem_of_getElem? (i := 110) rfl)) (hw _ (List.mem_of_getElem? (i := 113) rfl)) (hw _ (List.mem_of_getElem? (i := 111) rfl)) (hw _ (List.mem_of_getElem? (i := 112) rfl)) e3 hA hn_ (sn := 0) rfl (dn := 0) rfl hm3 (by omega) (by omega) N3 g_b2 (g := (mkF m 27 #[rv d, iv (0 : Int32), iv zn, iv zn, rv b2] [(.int rr3), (.int (0 : Int32)), (.ref b2), (.int (0 : Int32)), (.ref d)])) rfl (by rw [hml]; rfl) rfl (hb hby d36_27) (by decide) (W := 0) (by show 2 * 0 + _ ≤ _; exact Nat.le_of_eq rfl) (by decide)
  have f4k_P_d := BA.keep f2_P_d K4 (ninS ne_d_b2 nin0)
  have f4k_E_d := Exa.keep f2_E_d K4
  have f4k_E_b2 := Exa.keep Y2 K4
  have sz4k := Nat.le_trans sz2 (K4).1
  have K4kz := Keep.trans K2 K4 (allS (Or.inr szo_b2) all0)
  have O4k := Old.keep O2 K4 (allS g_b2 all0)
  refine Ends.go (fun _ => st4 _) ?_
  show Ends p.tables e below G (T4.setTop (mkF m 30 #[rv d, iv (0 : Int32), iv zn, iv zn, rv b2] []))
  refine Ends.go (fun _ => XS.aload X4.here hx rfl (hb hby d36_30) rfl rfl) ?_
  show Ends p.tables e below G (T4.setTop (mkF m 32 #[rv d, iv (0 : Int32), iv zn, iv zn, rv b2] [(.ref b2)]))
  refine own_finR X4 hx Bd.returns rfl Bd.notSynchronized (hb hby d36_32) (Q := (Q36 Z d zA zn A n_ h0 n0)) hG (by decide) (by decide) ?_
  show (Q36 Z d zA zn A n_ h0 n0) _ T4.heap _
  rw [e4]
  exact ⟨b2, rfl, N4, K4kz⟩
theorem d35_0 : decode jdk_65_method_132_code 0 = .ok (.iload_n 1, 1) := by decide +kernel
theorem d35_1 : decode jdk_65_method_132_code 1 = .ok (.ifCond .ne 9, 3) := by decide +kernel
theorem d35_4 : decode jdk_65_method_132_code 4 = .ok (.iload_n 2, 1) := by decide +kernel
theorem d35_5 : decode jdk_65_method_132_code 5 = .ok (.aload_n 0, 1) := by decide +kernel
theorem d35_6 : decode jdk_65_method_132_code 6 = .ok (.arraylength, 1) := by decide +kernel
theorem d35_7 : decode jdk_65_method_132_code 7 = .ok (.if_icmp .eq 10, 3) := by decide +kernel
theorem d35_10 : decode jdk_65_method_132_code 10 = .ok (.aload_n 0, 1) := by decide +kernel
theorem d35_11 : decode jdk_65_method_132_code 11 = .ok (.iload_n 1, 1) := by decide +kernel
theorem d35_12 : decode jdk_65_method_132_code 12 = .ok (.iload_n 2, 1) := by decide +kernel
theorem d35_13 : decode jdk_65_method_132_code 13 = .ok (.invokestatic 339, 3) := by decide +kernel
theorem pd_17 : parseMethodDescriptor "([BII)[B" = some ⟨[(.array .byte), .int, .int], some (.array .byte)⟩ := by decide +kernel
theorem d35_16 : decode jdk_65_method_132_code 16 = .ok (.areturn, 1) := by decide +kernel
theorem d35_17 : decode jdk_65_method_132_code 17 = .ok (.aload_n 0, 1) := by decide +kernel
theorem d35_18 : decode jdk_65_method_132_code 18 = .ok (.invokevirtual 310, 3) := by decide +kernel
theorem d35_21 : decode jdk_65_method_132_code 21 = .ok (.checkcast 311, 3) := by decide +kernel
theorem d35_24 : decode jdk_65_method_132_code 24 = .ok (.areturn, 1) := by decide +kernel
theorem pn_35 : plainName "java/util/Arrays" = true := by first | (simp [plainName, overriddenIn]; done) | decide +kernel
theorem ef_35 (m : MethodId) (x0 : Addr) (x1 : Int32) (x2 : Int32) : entryFrame m #[(.ref x0), (.int x1), (.int x2)] 3 = mkF m 0 #[rv x0, iv x1, iv x2] [] := by first | (simp [entryFrame, mkF, argsToLocals, Value.category]; done) | rfl
def Q35 (Z : State) (d : Addr) (zA : Int32) (zn : Int32) (A : Nat) (n_ : Nat) (h0 : Heap) (n0 : Nat) (v : Option Value) (h : Heap) (L : List Loc) : Prop := ∃ d', v = some (.ref d') ∧ Fr n0 L ∧ Keep h0 h []
set_option maxRecDepth 65536 in
set_option maxHeartbeats 40000000 in
theorem rm35 (l : Launch) (Z : State) (a0 : Array Value) (hw : ∀ d ∈ tables_1, d.before a0 Z = true) (ws : List Jvm.Cond) (d : Addr) (zA : Int32) (zn : Int32) (A : Nat) (n_ : Nat) (h0 : Heap) (n0 : Nat) (Z0 : n0 ≤ h0.size) (O0 : Old Z n0 h0) (BD : BA Z h0 d zA) (ED : Exa Z h0 d "[B") (hA : zA.toInt = (A : Int)) (hn_ : zn.toInt = (n_ : Int)) (hbd : n_ ≤ A ∧ A ≤ 300 ∧ n_ ≤ 100) :
    MetFree l (⟨"java/util/Arrays", "copyOfRange", "([BII)[B"⟩ : MethodName) (head1 (Jvm.Cond.code (⟨"java/util/Arrays", "copyOfRange", "([BII)[B"⟩ : MethodName) jdk_65_method_132_code 3 (some (.array .byte)) :: ws) ({ frames := 3, cells := 1, slots := 150, locals := 60 } : Room)) (fun a U => a = #[(.ref d), (.int (0 : Int32)), (.int zn)] ∧ Z.Warmed39 U.vm ∧ U.heap = h0) (fun _ _ _ _ _ => True) (fun _ U o U' => ∃ v L, o = .returned v ∧ Q35 Z d zA zn A n_ h0 n0 v U'.heap L ∧ FrameEnd U o U' L ({ frames := 3, cells := 1, slots := 150, locals := 60 } : Room).cells ({ frames := 3, cells := 1, slots := 150, locals := 60 } : Room).slots) := by
  refine MetFree.of_bodySF (plainFor_of_name pn_35) hisR ?_
  intro p e s m args below meth c s₁ Bd hml0 hP hK
  obtain ⟨rfl, hZ, hh⟩ := hP
  have hx := Bd.exec
  have hby := Bd.bytes
  have hml : c.maxLocals = 3 := hml0
  have hown : s.vm.findClass "java/util/Arrays" = some m.cls := findClass_of_methodNamed Bd.named
  have hnm := (name_of_methodNamed Bd.named Bd.method).1
  have X0 : Stand p l e ({ frames := 3, cells := 1, slots := 150, locals := 60 } : Room) s m #[(.ref d), (.int (0 : Int32)), (.int zn)] below meth c s₁ [] 0 0 := Stand.of_body Bd
  have e0 : s₁.heap = h0 := by rw [← hh, Bd.state]; rfl
  have N0 := Fr.nil n0
  show Ends p.tables e below (fun (s₂ : State) (o : Outcome) => ∃ v L, o = .returned v ∧ (Q35 Z d zA zn A n_ h0 n0) v s₂.heap L ∧ FrameEnd s o s₂ L ({ frames := 3, cells := 1, slots := 150, locals := 60 } : Room).cells ({ frames := 3, cells := 1, slots := 150, locals := 60 } : Room).slots) (s₁.setTop (entryFrame m #[(.ref d), (.int (0 : Int32)), (.int zn)] 3))
  refine Ends.any fun G hG => ?_
  refine Ends.go (fun t k => castTop (ef_35 m d (0 : Int32) zn) k) ?_
  show Ends p.tables e below G (s₁.setTop (mkF m 0 #[rv d, iv (0 : Int32), iv zn] []))
  refine Ends.go (fun _ => XS.iloadN X0.here hx rfl (hb hby d35_0) rfl) ?_
  show Ends p.tables e below G (s₁.setTop (mkF m 1 #[rv d, iv (0 : Int32), iv zn] [(.int (0 : Int32))]))
  refine Ends.go (fun _ => XS.ifNo X0.here hx rfl (hb hby d35_1) rfl ((if0 _ _).trans (teq (rfl : (0 : Int32) = (0 : Int32))).2)) ?_
  show Ends p.tables e below G (s₁.setTop (mkF m 4 #[rv d, iv (0 : Int32), iv zn] []))
  refine Ends.go (fun _ => XS.iloadN X0.here hx rfl (hb hby d35_4) rfl) ?_
  show Ends p.tables e below G (s₁.setTop (mkF m 5 #[rv d, iv (0 : Int32), iv zn] [(.int zn)]))
  refine Ends.go (fun _ => XS.aloadN X0.here hx rfl (hb hby d35_5) rfl rfl) ?_
  show Ends p.tables e below G (s₁.setTop (mkF m 6 #[rv d, iv (0 : Int32), iv zn] [(.ref d), (.int zn)]))
  refine Ends.go (fun _ => BA.len BD X0 hx hZ e0 (g := (mkF m 6 #[rv d, iv (0 : Int32), iv zn] [(.ref d), (.int zn)])) rfl rfl (hb hby d35_6) _) ?_
  show Ends p.tables e below G (s₁.setTop (mkF m 7 #[rv d, iv (0 : Int32), iv zn] [(.int zA), (.int zn)]))
  by_cases hnA : n_ = A
  · refine Ends.go (fun _ => XS.icmpYes X0.here hx rfl (pc0 := 7) (pc' := 17) rfl (hb hby d35_7) rfl (teq (((own_eqn hn_ hA).mpr hnA) : zn = zA)).1 (by decide) (by decide)) ?_
    show Ends p.tables e below G (s₁.setTop (mkF m 17 #[rv d, iv (0 : Int32), iv zn] []))
    refine Ends.go (fun _ => XS.aloadN X0.here hx rfl (hb hby d35_17) rfl rfl) ?_
    show Ends p.tables e below G (s₁.setTop (mkF m 18 #[rv d, iv (0 : Int32), iv zn] [(.ref d)]))
    obtain ⟨kv1, vs1, AV1⟩ := id BD
    obtain ⟨T1, h1, X1, e1, E1, A1, Y1, st1⟩ := cloneH X0 hx hZ hown (hw _ (List.mem_of_getElem? (i := 259) rfl)) (hw _ (List.mem_of_getElem? (i := 260) rfl)) (hw _ (List.mem_of_getElem? (i := 264) rfl)) (hw _ (List.mem_of_getElem? (i := 262) rfl)) (hw _ (List.mem_of_getElem? (i := 263) rfl)) (hw _ (List.mem_of_getElem? (i := 265) rfl)) e0 (Arv.arh AV1) ED (g := (mkF m 18 #[rv d, iv (0 : Int32), iv zn] [(.ref d)])) rfl (by rw [hml]; rfl) rfl (hb hby d35_18) (by decide) (W := 0) (by show 2 * 0 + _ ≤ _; exact Nat.le_of_eq rfl) (by decide) (cap := 150) (by rw [own_tn hA]; omega) (by decide) (by decide)
    obtain ⟨b1, g1⟩ : ∃ z, z = h0.size := ⟨_, rfl⟩
    rw [← g1] at A1 Y1 st1
    have g_b1 : n0 ≤ b1 := Nat.le_trans Z0 (Nat.le_of_eq g1.symm)
    have szo_b1 : h0.size ≤ b1 := Nat.le_trans ((Keep.refl h0 [])).1 (Nat.le_of_eq g1.symm)
    have ne_d_b1 : d ≠ b1 := Nat.ne_of_lt (Nat.lt_of_lt_of_le ED.lt (Nat.le_of_eq g1.symm))
    have f1_P_d := BA.ext BD E1
    have f1_E_d := ED.ext E1
    have sz1 := Nat.le_trans Z0 E1.1
    have K1 := Keep.ext (Keep.refl h0 []) E1
    have O1 := Old.ext O0 E1
    refine Ends.go (fun _ => st1 _) ?_
    show Ends p.tables e below G (T1.setTop (mkF m 21 #[rv d, iv (0 : Int32), iv zn] [(.ref b1)]))
    obtain ⟨T2, X2, e2, st2⟩ := castY X1 hx hZ hown (hw _ (List.mem_of_getElem? (i := 266) rfl)) e1 (Ins.self Y1) (g := (mkF m 21 #[rv d, iv (0 : Int32), iv zn] [(.ref b1)])) rfl rfl (hb hby d35_21)
    refine Ends.go (fun _ => st2 _) ?_
    show Ends p.tables e below G (T2.setTop (mkF m 24 #[rv d, iv (0 : Int32), iv zn] [(.ref b1)]))
    refine own_finR X2 hx Bd.returns rfl Bd.notSynchronized (hb hby d35_24) (Q := (Q35 Z d zA zn A n_ h0 n0)) hG (by decide) (by decide) ?_
    show (Q35 Z d zA zn A n_ h0 n0) _ T2.heap _
    rw [e2]
    exact ⟨b1, rfl, N0, K1⟩
  · refine Ends.go (fun _ => XS.icmpNo X0.here hx rfl (hb hby d35_7) rfl (feq ((fun q => hnA ((own_eqn hn_ hA).mp q)) : ¬ (zn = zA))).1) ?_
    show Ends p.tables e below G (s₁.setTop (mkF m 10 #[rv d, iv (0 : Int32), iv zn] []))
    refine Ends.go (fun _ => XS.aloadN X0.here hx rfl (hb hby d35_10) rfl rfl) ?_
    show Ends p.tables e below G (s₁.setTop (mkF m 11 #[rv d, iv (0 : Int32), iv zn] [(.ref d)]))
    refine Ends.go (fun _ => XS.iloadN X0.here hx rfl (hb hby d35_11) rfl) ?_
    show Ends p.tables e below G (s₁.setTop (mkF m 12 #[rv d, iv (0 : Int32), iv zn] [(.int (0 : Int32)), (.ref d)]))
    refine Ends.go (fun _ => XS.iloadN X0.here hx rfl (hb hby d35_12) rfl) ?_
    show Ends p.tables e below G (s₁.setTop (mkF m 13 #[rv d, iv (0 : Int32), iv zn] [(.int zn), (.int (0 : Int32)), (.ref d)]))
    obtain ⟨_, _, ⟨T3, L3, k3, n3⟩, -, X3, ⟨Lc3, hQ3, l3, y3, z3⟩, st3⟩ := Jvm.LawKit.callS X0 hx (y := (⟨"java/util/Arrays", "copyOfRangeByte", "([BII)[B"⟩ : MethodName)) hown (mvT hZ (hw _ (List.mem_of_getElem? (i := 186) rfl))) (mvT hZ (hw _ (List.mem_of_getElem? (i := 187) rfl))) (mvT hZ (hw _ (List.mem_of_getElem? (i := 105) rfl))) (mvT hZ (hw _ (List.mem_of_getElem? (i := 188) rfl))) (by decide) (backOf (W := 0) (rm36 l Z a0 hw [] d zA zn A n_ h0 n0 Z0 O0 BD ED hA hn_ hbd) hZ (hw _ (List.mem_of_getElem? (i := 188) rfl)) (hw _ (List.mem_of_getElem? (i := 105) rfl)) (by decide) (by decide)) (g := (mkF m 13 #[rv d, iv (0 : Int32), iv zn] [(.int zn), (.int (0 : Int32)), (.ref d)])) rfl (by rw [hml]; rfl) (argsL := [(.ref d), (.int (0 : Int32)), (.int zn)]) (rest := []) (lenOf pd_17 rfl) rfl (by show 2 * 0 + _ ≤ _; exact Nat.le_of_eq rfl) (hb hby d35_13) (fun _ _ => ⟨rfl, e0, (by decide : 0 + 1 ≤ _), (by decide : 0 + 150 ≤ _)⟩)
    dsimp only [Pt.U, Pt.locs, Pt.cells, Pt.slots] at X3 l3 y3 z3 st3 hQ3
    subst l3 y3 z3
    obtain ⟨dn3, rfl, N3q, Kq3⟩ := hQ3
    have N3 := Fr.app N0 N3q
    have f3_P_d := BA.keep BD Kq3 nin0
    have f3_E_d := Exa.keep ED Kq3
    have sz3 := Nat.le_trans Z0 (Kq3).1
    have K3z := Keep.trans (Keep.refl h0 []) Kq3 all0
    have O3 := Old.keep O0 Kq3 all0
    refine Ends.go (fun _ => st3 _) ?_
    show Ends p.tables e below G (T3.setTop (mkF m 16 #[rv d, iv (0 : Int32), iv zn] [(.ref dn3)]))
    refine own_finR X3 hx Bd.returns rfl Bd.notSynchronized (hb hby d35_16) (Q := (Q35 Z d zA zn A n_ h0 n0)) hG (by decide) (by decide) ?_
    show (Q35 Z d zA zn A n_ h0 n0) _ T3.heap _
    exact ⟨dn3, rfl, N3, K3z⟩
theorem d31_0 : decode jdk_42_method_150_code 0 = .ok (.aload_n 0, 1) := by decide +kernel
theorem d31_1 : decode jdk_42_method_150_code 1 = .ok (.invokespecial 1, 3) := by decide +kernel
theorem pd_18 : parseMethodDescriptor "()V" = some ⟨[], none⟩ := by decide +kernel
theorem d31_4 : decode jdk_42_method_150_code 4 = .ok (.aload_n 1, 1) := by decide +kernel
theorem d31_5 : decode jdk_42_method_150_code 5 = .ok (.invokevirtual 552, 3) := by decide +kernel
theorem pd_19 : parseMethodDescriptor "()[B" = some ⟨[], some (.array .byte)⟩ := by decide +kernel
theorem d31_8 : decode jdk_42_method_150_code 8 = .ok (.astore_n 3, 1) := by decide +kernel
theorem d31_9 : decode jdk_42_method_150_code 9 = .ok (.aload_n 1, 1) := by decide +kernel
theorem d31_10 : decode jdk_42_method_150_code 10 = .ok (.invokevirtual 549, 3) := by decide +kernel
theorem d31_13 : decode jdk_42_method_150_code 13 = .ok (.istore 4, 2) := by decide +kernel
theorem d31_15 : decode jdk_42_method_150_code 15 = .ok (.aload_n 1, 1) := by decide +kernel
theorem d31_16 : decode jdk_42_method_150_code 16 = .ok (.invokevirtual 1047, 3) := by decide +kernel
theorem d31_19 : decode jdk_42_method_150_code 19 = .ok (.ifCond .eq 22, 3) := by decide +kernel
theorem d31_22 : decode jdk_42_method_150_code 22 = .ok (.aload_n 0, 1) := by decide +kernel
theorem d31_23 : decode jdk_42_method_150_code 23 = .ok (.iconst 0, 1) := by decide +kernel
theorem d31_24 : decode jdk_42_method_150_code 24 = .ok (.putfield 15, 3) := by decide +kernel
theorem d31_27 : decode jdk_42_method_150_code 27 = .ok (.aload_n 0, 1) := by decide +kernel
theorem d31_28 : decode jdk_42_method_150_code 28 = .ok (.aload_n 3, 1) := by decide +kernel
theorem d31_29 : decode jdk_42_method_150_code 29 = .ok (.iconst 0, 1) := by decide +kernel
theorem d31_30 : decode jdk_42_method_150_code 30 = .ok (.iload 4, 2) := by decide +kernel
theorem d31_32 : decode jdk_42_method_150_code 32 = .ok (.invokestatic 54, 3) := by decide +kernel
theorem d31_35 : decode jdk_42_method_150_code 35 = .ok (.putfield 9, 3) := by decide +kernel
theorem d31_38 : decode jdk_42_method_150_code 38 = .ok (.goto 59, 3) := by decide +kernel
theorem d31_41 : decode jdk_42_method_150_code 41 = .ok (.getstatic 38, 3) := by decide +kernel
theorem d31_44 : decode jdk_42_method_150_code 44 = .ok (.ifCond .eq 35, 3) := by decide +kernel
theorem d31_47 : decode jdk_42_method_150_code 47 = .ok (.aload_n 1, 1) := by decide +kernel
theorem d31_48 : decode jdk_42_method_150_code 48 = .ok (.getfield 1048, 3) := by decide +kernel
theorem d31_51 : decode jdk_42_method_150_code 51 = .ok (.ifCond .eq 28, 3) := by decide +kernel
theorem d31_54 : decode jdk_42_method_150_code 54 = .ok (.aload_n 0, 1) := by decide +kernel
theorem d31_55 : decode jdk_42_method_150_code 55 = .ok (.aload_n 3, 1) := by decide +kernel
theorem d31_56 : decode jdk_42_method_150_code 56 = .ok (.iconst 0, 1) := by decide +kernel
theorem d31_57 : decode jdk_42_method_150_code 57 = .ok (.iload 4, 2) := by decide +kernel
theorem d31_59 : decode jdk_42_method_150_code 59 = .ok (.invokestatic 1051, 3) := by decide +kernel
theorem d31_62 : decode jdk_42_method_150_code 62 = .ok (.putfield 9, 3) := by decide +kernel
theorem d31_65 : decode jdk_42_method_150_code 65 = .ok (.aload_n 0, 1) := by decide +kernel
theorem d31_66 : decode jdk_42_method_150_code 66 = .ok (.aload_n 0, 1) := by decide +kernel
theorem d31_67 : decode jdk_42_method_150_code 67 = .ok (.getfield 9, 3) := by decide +kernel
theorem d31_70 : decode jdk_42_method_150_code 70 = .ok (.iload 4, 2) := by decide +kernel
theorem d31_72 : decode jdk_42_method_150_code 72 = .ok (.invokestatic 47, 3) := by decide +kernel
theorem pd_20 : parseMethodDescriptor "([BI)B" = some ⟨[(.array .byte), .int], some .byte⟩ := by decide +kernel
theorem d31_75 : decode jdk_42_method_150_code 75 = .ok (.putfield 15, 3) := by decide +kernel
theorem d31_78 : decode jdk_42_method_150_code 78 = .ok (.return_, 1) := by decide +kernel
theorem d31_79 : decode jdk_42_method_150_code 79 = .ok (.aload_n 0, 1) := by decide +kernel
theorem d31_80 : decode jdk_42_method_150_code 80 = .ok (.iconst 1, 1) := by decide +kernel
theorem d31_81 : decode jdk_42_method_150_code 81 = .ok (.putfield 15, 3) := by decide +kernel
theorem d31_84 : decode jdk_42_method_150_code 84 = .ok (.aload_n 0, 1) := by decide +kernel
theorem d31_85 : decode jdk_42_method_150_code 85 = .ok (.aload_n 3, 1) := by decide +kernel
theorem d31_86 : decode jdk_42_method_150_code 86 = .ok (.iconst 0, 1) := by decide +kernel
theorem d31_87 : decode jdk_42_method_150_code 87 = .ok (.iload 4, 2) := by decide +kernel
theorem d31_89 : decode jdk_42_method_150_code 89 = .ok (.iconst 1, 1) := by decide +kernel
theorem d31_90 : decode jdk_42_method_150_code 90 = .ok (.ishl, 1) := by decide +kernel
theorem d31_91 : decode jdk_42_method_150_code 91 = .ok (.invokestatic 54, 3) := by decide +kernel
theorem d31_94 : decode jdk_42_method_150_code 94 = .ok (.putfield 9, 3) := by decide +kernel
theorem d31_97 : decode jdk_42_method_150_code 97 = .ok (.return_, 1) := by decide +kernel
theorem pn_31 : plainName "java/lang/String" = true := by first | (simp [plainName, overriddenIn]; done) | decide +kernel
theorem ef_31 (m : MethodId) (x0 : Addr) (x1 : Addr) : entryFrame m #[(.ref x0), (.ref x1), .null] 5 = mkF m 0 #[rv x0, rv x1, .val .null, un, un] [] := by first | (simp [entryFrame, mkF, argsToLocals, Value.category]; done) | rfl
def Q31 (Z : State) (x : Addr) (b : Addr) (d : Addr) (zA : Int32) (zn : Int32) (A : Nat) (n_ : Nat) (zc : Int32) (h0 : Heap) (n0 : Nat) (v : Option Value) (h : Heap) (L : List Loc) : Prop := v = none ∧ Fr n0 L ∧ Keep h0 h [x]
set_option maxRecDepth 65536 in
set_option maxHeartbeats 40000000 in
theorem rm31 (l : Launch) (Z : State) (a0 : Array Value) (hw : ∀ d ∈ tables_1, d.before a0 Z = true) (ws : List Jvm.Cond) (x : Addr) (b : Addr) (d : Addr) (zA : Int32) (zn : Int32) (A : Nat) (n_ : Nat) (zc : Int32) (h0 : Heap) (n0 : Nat) (Z0 : n0 ≤ h0.size) (O0 : Old Z n0 h0) (SC : Sta Z Z.heap "java/lang/String" "COMPACT_STRINGS" "Z" (.int zc)) (hzc : ¬ (zc = (0 : Int32))) (Ex : Exa Z h0 x "java/lang/String") (Fx : ∃ u, Fld Z h0 x "java/lang/String" "value" "[B" u) (Fy : ∃ u, Fld Z h0 x "java/lang/String" "coder" "B" u) (g_x : n0 ≤ x) (SB : SBF Z h0 b d zA zn) (hA : zA.toInt = (A : Int)) (hn_ : zn.toInt = (n_ : Int)) (hbd : n_ ≤ A ∧ A ≤ 300 ∧ n_ ≤ 100) :
    MetFree l (⟨"java/lang/String", "<init>", "(Ljava/lang/AbstractStringBuilder;Ljava/lang/Void;)V"⟩ : MethodName) (head1 (Jvm.Cond.code (⟨"java/lang/String", "<init>", "(Ljava/lang/AbstractStringBuilder;Ljava/lang/Void;)V"⟩ : MethodName) jdk_42_method_150_code 5 none :: ws) ({ frames := 4, cells := 1, slots := 150, locals := 80 } : Room)) (fun a U => a = #[(.ref x), (.ref b), .null] ∧ Z.Warmed39 U.vm ∧ U.heap = h0) (fun _ _ _ _ _ => True) (fun _ U o U' => ∃ v L, o = .returned v ∧ Q31 Z x b d zA zn A n_ zc h0 n0 v U'.heap L ∧ FrameEnd U o U' L ({ frames := 4, cells := 1, slots := 150, locals := 80 } : Room).cells ({ frames := 4, cells := 1, slots := 150, locals := 80 } : Room).slots) := by
  refine MetFree.of_bodySF (plainFor_of_name pn_31) hisR ?_
  intro p e s m args below meth c s₁ Bd hml0 hP hK
  obtain ⟨rfl, hZ, hh⟩ := hP
  have hx := Bd.exec
  have hby := Bd.bytes
  have hml : c.maxLocals = 5 := hml0
  have hown : s.vm.findClass "java/lang/String" = some m.cls := findClass_of_methodNamed Bd.named
  have hnm := (name_of_methodNamed Bd.named Bd.method).1
  have X0 : Stand p l e ({ frames := 4, cells := 1, slots := 150, locals := 80 } : Room) s m #[(.ref x), (.ref b), .null] below meth c s₁ [] 0 0 := Stand.of_body Bd
  have e0 : s₁.heap = h0 := by rw [← hh, Bd.state]; rfl
  have N0 := Fr.nil n0
  show Ends p.tables e below (fun (s₂ : State) (o : Outcome) => ∃ v L, o = .returned v ∧ (Q31 Z x b d zA zn A n_ zc h0 n0) v s₂.heap L ∧ FrameEnd s o s₂ L ({ frames := 4, cells := 1, slots := 150, locals := 80 } : Room).cells ({ frames := 4, cells := 1, slots := 150, locals := 80 } : Room).slots) (s₁.setTop (entryFrame m #[(.ref x), (.ref b), .null] 5))
  refine Ends.any fun G hG => ?_
  refine Ends.go (fun t k => castTop (ef_31 m x b) k) ?_
  show Ends p.tables e below G (s₁.setTop (mkF m 0 #[rv x, rv b, .val .null, un, un] []))
  obtain ⟨uv_, Fx1⟩ := Fx
  obtain ⟨uc_, Fy1⟩ := Fy
  obtain ⟨Eb_b, Fv_b, Fc_b, Fn_b, Ba_b, Ea_b⟩ := SB
  have ne_b_d : b ≠ d := Exa.ne Eb_b Ea_b (by decide)
  have ne_b_x : b ≠ x := Exa.ne Eb_b Ex (by decide)
  have ne_x_d : x ≠ d := Exa.ne Ex Ea_b (by decide)
  refine Ends.go (fun _ => XS.aloadN X0.here hx rfl (hb hby d31_0) rfl rfl) ?_
  show Ends p.tables e below G (s₁.setTop (mkF m 1 #[rv x, rv b, .val .null, un, un] [(.ref x)]))
  obtain ⟨T1, X1, e1, st1⟩ := initO X0 hx hZ hown (hw _ (List.mem_of_getElem? (i := 15) rfl)) (hw _ (List.mem_of_getElem? (i := 16) rfl)) (hw _ (List.mem_of_getElem? (i := 17) rfl)) e0 (g := (mkF m 1 #[rv x, rv b, .val .null, un, un] [(.ref x)])) rfl (by rw [hml]; rfl) rfl (hb hby d31_1) (by decide) (W := 0) (by show 2 * 0 + _ ≤ _; exact Nat.le_of_eq rfl) (by decide)
  refine Ends.go (fun _ => st1 _) ?_
  show Ends p.tables e below G (T1.setTop (mkF m 4 #[rv x, rv b, .val .null, un, un] []))
  refine Ends.go (fun _ => XS.aloadN X1.here hx rfl (hb hby d31_4) rfl rfl) ?_
  show Ends p.tables e below G (T1.setTop (mkF m 5 #[rv x, rv b, .val .null, un, un] [(.ref b)]))
  obtain ⟨cq2, kq2, q2a, q2b, q2c⟩ := isOf hZ e1 Eb_b
  obtain ⟨_, _, ⟨T2, L2, k2, n2⟩, -, X2, ⟨Lc2, hQ2, l2, y2, z2⟩, st2⟩ := X1.virtualBack hx (y := (⟨"java/lang/AbstractStringBuilder", "getValue", "()[B"⟩ : MethodName)) (z := (⟨"java/lang/AbstractStringBuilder", "getValue", "()[B"⟩ : MethodName)) hown (mvT hZ (hw _ (List.mem_of_getElem? (i := 169) rfl))) (mvT hZ (hw _ (List.mem_of_getElem? (i := 170) rfl))) (notFace_of_selects (args := #[]) (mvT hZ (hw _ (List.mem_of_getElem? (i := 172) rfl)))) (mvT hZ (hw _ (List.mem_of_getElem? (i := 172) rfl))) (mvT hZ (hw _ (List.mem_of_getElem? (i := 171) rfl))) (by decide) (backOf (W := 0) (rm32 l Z a0 hw [] b d zA zn zc h0 n0 Z0 O0 SC hzc ⟨Eb_b, Fv_b, Fc_b, Fn_b, Ba_b, Ea_b⟩) hZ (hw _ (List.mem_of_getElem? (i := 173) rfl)) (hw _ (List.mem_of_getElem? (i := 50) rfl)) (by decide) (by decide)) q2a q2c (g := (mkF m 5 #[rv x, rv b, .val .null, un, un] [(.ref b)])) rfl (by rw [hml]; rfl) (Steps.refl _) (argsL := []) (rest := []) (lenOf pd_19 rfl) rfl (by show 2 * 0 + _ ≤ _; exact Nat.le_of_eq rfl) (hb hby d31_5) (fun _ _ => ⟨rfl, e1, (by decide : 0 + 0 ≤ _), (by decide : 0 + 0 ≤ _)⟩)
  dsimp only [Pt.U, Pt.locs, Pt.cells, Pt.slots] at X2 l2 y2 z2 st2 hQ2
  subst l2 y2 z2
  obtain ⟨rfl, N2q, e2⟩ := hQ2
  have N2 := Fr.app N0 N2q
  refine Ends.go (fun _ => st2.trans) ?_
  show Ends p.tables e below G (T2.setTop (mkF m 8 #[rv x, rv b, .val .null, un, un] [(.ref d)]))
  refine Ends.go (fun _ => XS.astoreN (g := (mkF m 8 #[rv x, rv b, .val .null, un, un] [(.ref d)])) X2.here hx rfl (hb hby d31_8) rfl rfl (l' := #[rv x, rv b, .val .null, rv d, un]) rfl) ?_
  show Ends p.tables e below G (T2.setTop (mkF m 9 #[rv x, rv b, .val .null, rv d, un] []))
  refine Ends.go (fun _ => XS.aloadN X2.here hx rfl (hb hby d31_9) rfl rfl) ?_
  show Ends p.tables e below G (T2.setTop (mkF m 10 #[rv x, rv b, .val .null, rv d, un] [(.ref b)]))
  obtain ⟨cq3, kq3, q3a, q3b, q3c⟩ := isOf hZ e2 Eb_b
  obtain ⟨_, _, ⟨T3, L3, k3, n3⟩, -, X3, ⟨Lc3, hQ3, l3, y3, z3⟩, st3⟩ := X2.virtualBack hx (y := (⟨"java/lang/AbstractStringBuilder", "length", "()I"⟩ : MethodName)) (z := (⟨"java/lang/StringBuilder", "length", "()I"⟩ : MethodName)) hown (mvT hZ (hw _ (List.mem_of_getElem? (i := 174) rfl))) (mvT hZ (hw _ (List.mem_of_getElem? (i := 175) rfl))) (own_nf (a1 := #[]) (y2 := (⟨"java/lang/AbstractStringBuilder", "ensureCapacityInternal", "(I)V"⟩ : MethodName)) rfl (mvT hZ (hw _ (List.mem_of_getElem? (i := 86) rfl)))) (mvT hZ (hw _ (List.mem_of_getElem? (i := 177) rfl))) (mvT hZ (hw _ (List.mem_of_getElem? (i := 178) rfl))) (by decide) (backOf (W := 0) (rm33 l Z a0 hw [] b d zA zn zc h0 n0 Z0 O0 SC hzc ⟨Eb_b, Fv_b, Fc_b, Fn_b, Ba_b, Ea_b⟩) hZ (hw _ (List.mem_of_getElem? (i := 179) rfl)) (hw _ (List.mem_of_getElem? (i := 42) rfl)) (by decide) (by decide)) q3a q3c (g := (mkF m 10 #[rv x, rv b, .val .null, rv d, un] [(.ref b)])) rfl (by rw [hml]; rfl) (Steps.refl _) (argsL := []) (rest := []) (lenOf pd_1 rfl) rfl (by show 2 * 0 + _ ≤ _; exact Nat.le_of_eq rfl) (hb hby d31_10) (fun _ _ => ⟨rfl, e2, (by decide : (0 + 0) + 0 ≤ _), (by decide : (0 + 0) + 0 ≤ _)⟩)
  dsimp only [Pt.U, Pt.locs, Pt.cells, Pt.slots] at X3 l3 y3 z3 st3 hQ3
  subst l3 y3 z3
  obtain ⟨rfl, N3q, e3⟩ := hQ3
  have N3 := Fr.app N2 N3q
  refine Ends.go (fun _ => st3.trans) ?_
  show Ends p.tables e below G (T3.setTop (mkF m 13 #[rv x, rv b, .val .null, rv d, un] [(.int zn)]))
  refine Ends.go (fun _ => XS.istore (g := (mkF m 13 #[rv x, rv b, .val .null, rv d, un] [(.int zn)])) X3.here hx rfl (hb hby d31_13) rfl (l' := #[rv x, rv b, .val .null, rv d, iv zn]) rfl) ?_
  show Ends p.tables e below G (T3.setTop (mkF m 15 #[rv x, rv b, .val .null, rv d, iv zn] []))
  refine Ends.go (fun _ => XS.aloadN X3.here hx rfl (hb hby d31_15) rfl rfl) ?_
  show Ends p.tables e below G (T3.setTop (mkF m 16 #[rv x, rv b, .val .null, rv d, iv zn] [(.ref b)]))
  obtain ⟨cq4, kq4, q4a, q4b, q4c⟩ := isOf hZ e3 Eb_b
  obtain ⟨_, _, ⟨T4, L4, k4, n4⟩, -, X4, ⟨Lc4, hQ4, l4, y4, z4⟩, st4⟩ := X3.virtualBack hx (y := (⟨"java/lang/AbstractStringBuilder", "isLatin1", "()Z"⟩ : MethodName)) (z := (⟨"java/lang/AbstractStringBuilder", "isLatin1", "()Z"⟩ : MethodName)) hown (mvT hZ (hw _ (List.mem_of_getElem? (i := 182) rfl))) (mvT hZ (hw _ (List.mem_of_getElem? (i := 147) rfl))) (notFace_of_selects (args := #[]) (mvT hZ (hw _ (List.mem_of_getElem? (i := 149) rfl)))) (mvT hZ (hw _ (List.mem_of_getElem? (i := 149) rfl))) (mvT hZ (hw _ (List.mem_of_getElem? (i := 148) rfl))) (by decide) (backOf (W := 0) (rm27 l Z a0 hw [] b d zA zn zc h0 n0 Z0 O0 SC hzc ⟨Eb_b, Fv_b, Fc_b, Fn_b, Ba_b, Ea_b⟩) hZ (hw _ (List.mem_of_getElem? (i := 150) rfl)) (hw _ (List.mem_of_getElem? (i := 50) rfl)) (by decide) (by decide)) q4a q4c (g := (mkF m 16 #[rv x, rv b, .val .null, rv d, iv zn] [(.ref b)])) rfl (by rw [hml]; rfl) (Steps.refl _) (argsL := []) (rest := []) (lenOf pd_13 rfl) rfl (by show 2 * 0 + _ ≤ _; exact Nat.le_of_eq rfl) (hb hby d31_16) (fun _ _ => ⟨rfl, e3, (by decide : ((0 + 0) + 0) + 0 ≤ _), (by decide : ((0 + 0) + 0) + 0 ≤ _)⟩)
  dsimp only [Pt.U, Pt.locs, Pt.cells, Pt.slots] at X4 l4 y4 z4 st4 hQ4
  subst l4 y4 z4
  obtain ⟨rfl, N4q, e4⟩ := hQ4
  have N4 := Fr.app N3 N4q
  refine Ends.go (fun _ => st4.trans) ?_
  show Ends p.tables e below G (T4.setTop (mkF m 19 #[rv x, rv b, .val .null, rv d, iv zn] [(.int (1 : Int32))]))
  refine Ends.go (fun _ => XS.ifNo X4.here hx rfl (hb hby d31_19) rfl ((if0 _ _).trans (feq ((by decide) : ¬ ((1 : Int32) = (0 : Int32)))).1)) ?_
  show Ends p.tables e below G (T4.setTop (mkF m 22 #[rv x, rv b, .val .null, rv d, iv zn] []))
  refine Ends.go (fun _ => XS.aloadN X4.here hx rfl (hb hby d31_22) rfl rfl) ?_
  show Ends p.tables e below G (T4.setTop (mkF m 23 #[rv x, rv b, .val .null, rv d, iv zn] [(.ref x)]))
  refine Ends.go (fun _ => XS.iconst X4.here hx rfl (hb hby d31_23)) ?_
  show Ends p.tables e below G (T4.setTop (mkF m 24 #[rv x, rv b, .val .null, rv d, iv zn] [(.int (0 : Int32)), (.ref x)]))
  obtain ⟨T5, h5, X5, e5, W5, st5⟩ := putFN X4 hx hZ hown (hw _ (List.mem_of_getElem? (i := 30) rfl)) Via.refl e4 Fy1 Ex (Or.inr ⟨(hw _ (List.mem_of_getElem? (i := 31) rfl)), rfl, hnm⟩) (hw _ (List.mem_of_getElem? (i := 6) rfl)) (ty := .byte) (v' := (.int (nar .byte (0 : Int32)))) (by decide) rfl (fits_nar_byte _) (g := (mkF m 24 #[rv x, rv b, .val .null, rv d, iv zn] [(.int (0 : Int32)), (.ref x)])) rfl rfl (hb hby d31_24)
  have f5_E_x := Ex.wr W5
  have f5_F_x_value := Fx1.other W5 (Or.inr (slot_ne (Or.inr (hw _ (List.mem_of_getElem? (i := 33) rfl))) (Or.inr (hw _ (List.mem_of_getElem? (i := 31) rfl))) (by decide) (t := (.array .byte)) (t' := .byte) (by decide) (by decide)))
  have f5_F_x_coder := Fy1.same W5
  have f5_E_b := Eb_b.wr W5
  have f5_F_b_value := Fv_b.other W5 (Or.inl ne_b_x)
  have f5_F_b_coder := Fc_b.other W5 (Or.inl ne_b_x)
  have f5_F_b_count := Fn_b.other W5 (Or.inl ne_b_x)
  have f5_E_d := Ea_b.wr W5
  have sz5 := Nat.le_trans Z0 (Nat.le_of_eq W5.size.symm)
  have K5 := Keep.wr (Keep.refl h0 [x]) W5 (Or.inl (List.mem_of_getElem? (i := 0) rfl))
  have N5 := Fr.snoc X5 N4 g_x
  have f5_P_d := BA.other Ba_b W5 (Ne.symm ne_x_d)
  have O5 := Old.wr O0 W5 g_x
  refine Ends.go (fun _ => st5 _) ?_
  show Ends p.tables e below G (T5.setTop (mkF m 27 #[rv x, rv b, .val .null, rv d, iv zn] []))
  refine Ends.go (fun _ => XS.aloadN X5.here hx rfl (hb hby d31_27) rfl rfl) ?_
  show Ends p.tables e below G (T5.setTop (mkF m 28 #[rv x, rv b, .val .null, rv d, iv zn] [(.ref x)]))
  refine Ends.go (fun _ => XS.aloadN X5.here hx rfl (hb hby d31_28) rfl rfl) ?_
  show Ends p.tables e below G (T5.setTop (mkF m 29 #[rv x, rv b, .val .null, rv d, iv zn] [(.ref d), (.ref x)]))
  refine Ends.go (fun _ => XS.iconst X5.here hx rfl (hb hby d31_29)) ?_
  show Ends p.tables e below G (T5.setTop (mkF m 30 #[rv x, rv b, .val .null, rv d, iv zn] [(.int (0 : Int32)), (.ref d), (.ref x)]))
  refine Ends.go (fun _ => XS.iload X5.here hx rfl (hb hby d31_30) rfl) ?_
  show Ends p.tables e below G (T5.setTop (mkF m 32 #[rv x, rv b, .val .null, rv d, iv zn] [(.int zn), (.int (0 : Int32)), (.ref d), (.ref x)]))
  obtain ⟨_, _, ⟨T6, L6, k6, n6⟩, -, X6, ⟨Lc6, hQ6, l6, y6, z6⟩, st6⟩ := Jvm.LawKit.callS X5 hx (y := (⟨"java/util/Arrays", "copyOfRange", "([BII)[B"⟩ : MethodName)) hown (mvT hZ (hw _ (List.mem_of_getElem? (i := 183) rfl))) (mvT hZ (hw _ (List.mem_of_getElem? (i := 184) rfl))) (mvT hZ (hw _ (List.mem_of_getElem? (i := 105) rfl))) (mvT hZ (hw _ (List.mem_of_getElem? (i := 185) rfl))) (by decide) (backOf (W := 1) (rm35 l Z a0 hw [] d zA zn A n_ h5 n0 sz5 O5 f5_P_d f5_E_d hA hn_ hbd) hZ (hw _ (List.mem_of_getElem? (i := 185) rfl)) (hw _ (List.mem_of_getElem? (i := 105) rfl)) (by decide) (by decide)) (g := (mkF m 32 #[rv x, rv b, .val .null, rv d, iv zn] [(.int zn), (.int (0 : Int32)), (.ref d), (.ref x)])) rfl (by rw [hml]; rfl) (argsL := [(.ref d), (.int (0 : Int32)), (.int zn)]) (rest := [(.ref x)]) (lenOf pd_17 rfl) rfl (by show 2 * 0 + _ ≤ _; exact Nat.le_of_eq rfl) (hb hby d31_32) (fun _ _ => ⟨rfl, e5, (by decide : (((0 + 0) + 0) + 0) + 1 ≤ _), (by decide : (((0 + 0) + 0) + 0) + 150 ≤ _)⟩)
  dsimp only [Pt.U, Pt.locs, Pt.cells, Pt.slots] at X6 l6 y6 z6 st6 hQ6
  subst l6 y6 z6
  obtain ⟨dn6, rfl, N6q, Kq6⟩ := hQ6
  have N6 := Fr.app N5 N6q
  have f6_E_x := Exa.keep f5_E_x Kq6
  have f6_F_x_value := Fld.keep f5_F_x_value Kq6 nin0
  have f6_F_x_coder := Fld.keep f5_F_x_coder Kq6 nin0
  have f6_E_b := Exa.keep f5_E_b Kq6
  have f6_F_b_value := Fld.keep f5_F_b_value Kq6 nin0
  have f6_F_b_coder := Fld.keep f5_F_b_coder Kq6 nin0
  have f6_F_b_count := Fld.keep f5_F_b_count Kq6 nin0
  have f6_E_d := Exa.keep f5_E_d Kq6
  have f6_P_d := BA.keep f5_P_d Kq6 nin0
  have sz6 := Nat.le_trans sz5 (Kq6).1
  have K6z := Keep.trans K5 Kq6 all0
  have O6 := Old.keep O5 Kq6 all0
  refine Ends.go (fun _ => st6 _) ?_
  show Ends p.tables e below G (T6.setTop (mkF m 35 #[rv x, rv b, .val .null, rv d, iv zn] [(.ref dn6), (.ref x)]))
  obtain ⟨T7, h7, X7, e7, W7, st7⟩ := putF X6 hx hZ hown (host := "") (Or.inl (hw _ (List.mem_of_getElem? (i := 32) rfl))) Via.refl rfl f6_F_x_value f6_E_x (Or.inr ⟨(hw _ (List.mem_of_getElem? (i := 33) rfl)), rfl, hnm⟩) (hw _ (List.mem_of_getElem? (i := 6) rfl)) (ty := (.array .byte)) (by decide) rfl rfl (g := (mkF m 35 #[rv x, rv b, .val .null, rv d, iv zn] [(.ref dn6), (.ref x)])) rfl rfl (hb hby d31_35)
  have f7_E_x := f6_E_x.wr W7
  have f7_F_x_value := f6_F_x_value.same W7
  have f7_F_x_coder := f6_F_x_coder.other W7 (Or.inr (slot_ne (Or.inr (hw _ (List.mem_of_getElem? (i := 31) rfl))) (Or.inr (hw _ (List.mem_of_getElem? (i := 33) rfl))) (by decide) (t := .byte) (t' := (.array .byte)) (by decide) (by decide)))
  have f7_E_b := f6_E_b.wr W7
  have f7_F_b_value := f6_F_b_value.other W7 (Or.inl ne_b_x)
  have f7_F_b_coder := f6_F_b_coder.other W7 (Or.inl ne_b_x)
  have f7_F_b_count := f6_F_b_count.other W7 (Or.inl ne_b_x)
  have f7_E_d := f6_E_d.wr W7
  have sz7 := Nat.le_trans sz6 (Nat.le_of_eq W7.size.symm)
  have K7 := Keep.wr K6z W7 (Or.inl (List.mem_of_getElem? (i := 0) rfl))
  have N7 := Fr.snoc X7 N6 g_x
  have f7_P_d := BA.other f6_P_d W7 (Ne.symm ne_x_d)
  have O7 := Old.wr O6 W7 g_x
  refine Ends.go (fun _ => st7 _) ?_
  show Ends p.tables e below G (T7.setTop (mkF m 38 #[rv x, rv b, .val .null, rv d, iv zn] []))
  refine Ends.go (fun _ => XS.goto X7.here hx rfl (pc0 := 38) (pc' := 97) rfl (hb hby d31_38) (by decide) (by decide)) ?_
  show Ends p.tables e below G (T7.setTop (mkF m 97 #[rv x, rv b, .val .null, rv d, iv zn] []))
  refine own_finN X7 hx Bd.returns Bd.notSynchronized (hb hby d31_97) (Q := (Q31 Z x b d zA zn A n_ zc h0 n0)) hG (by decide) (by decide) ?_
  show (Q31 Z x b d zA zn A n_ zc h0 n0) _ T7.heap _
  rw [e7]
  exact ⟨rfl, N7, K7⟩
theorem d30_0 : decode jdk_42_method_53_code 0 = .ok (.aload_n 0, 1) := by decide +kernel
theorem d30_1 : decode jdk_42_method_53_code 1 = .ok (.aload_n 1, 1) := by decide +kernel
theorem d30_2 : decode jdk_42_method_53_code 2 = .ok (.aconst_null, 1) := by decide +kernel
theorem d30_3 : decode jdk_42_method_53_code 3 = .ok (.invokespecial 489, 3) := by decide +kernel
theorem pd_21 : parseMethodDescriptor "(Ljava/lang/AbstractStringBuilder;Ljava/lang/Void;)V" = some ⟨[(.object "java/lang/AbstractStringBuilder"), (.object "java/lang/Void")], none⟩ := by decide +kernel
theorem d30_6 : decode jdk_42_method_53_code 6 = .ok (.return_, 1) := by decide +kernel
theorem pn_30 : plainName "java/lang/String" = true := by first | (simp [plainName, overriddenIn]; done) | decide +kernel
theorem ef_30 (m : MethodId) (x0 : Addr) (x1 : Addr) : entryFrame m #[(.ref x0), (.ref x1)] 2 = mkF m 0 #[rv x0, rv x1] [] := by first | (simp [entryFrame, mkF, argsToLocals, Value.category]; done) | rfl
def Q30 (Z : State) (x : Addr) (b : Addr) (d : Addr) (zA : Int32) (zn : Int32) (A : Nat) (n_ : Nat) (zc : Int32) (h0 : Heap) (n0 : Nat) (v : Option Value) (h : Heap) (L : List Loc) : Prop := v = none ∧ Fr n0 L ∧ Keep h0 h [x]
set_option maxRecDepth 65536 in
set_option maxHeartbeats 40000000 in
theorem rm30 (l : Launch) (Z : State) (a0 : Array Value) (hw : ∀ d ∈ tables_1, d.before a0 Z = true) (ws : List Jvm.Cond) (x : Addr) (b : Addr) (d : Addr) (zA : Int32) (zn : Int32) (A : Nat) (n_ : Nat) (zc : Int32) (h0 : Heap) (n0 : Nat) (Z0 : n0 ≤ h0.size) (O0 : Old Z n0 h0) (SC : Sta Z Z.heap "java/lang/String" "COMPACT_STRINGS" "Z" (.int zc)) (hzc : ¬ (zc = (0 : Int32))) (Ex : Exa Z h0 x "java/lang/String") (Fx : ∃ u, Fld Z h0 x "java/lang/String" "value" "[B" u) (Fy : ∃ u, Fld Z h0 x "java/lang/String" "coder" "B" u) (g_x : n0 ≤ x) (SB : SBF Z h0 b d zA zn) (hA : zA.toInt = (A : Int)) (hn_ : zn.toInt = (n_ : Int)) (hbd : n_ ≤ A ∧ A ≤ 300 ∧ n_ ≤ 100) :
    MetFree l (⟨"java/lang/String", "<init>", "(Ljava/lang/StringBuilder;)V"⟩ : MethodName) (head1 (Jvm.Cond.code (⟨"java/lang/String", "<init>", "(Ljava/lang/StringBuilder;)V"⟩ : MethodName) jdk_42_method_53_code 2 none :: ws) ({ frames := 5, cells := 1, slots := 150, locals := 100 } : Room)) (fun a U => a = #[(.ref x), (.ref b)] ∧ Z.Warmed39 U.vm ∧ U.heap = h0) (fun _ _ _ _ _ => True) (fun _ U o U' => ∃ v L, o = .returned v ∧ Q30 Z x b d zA zn A n_ zc h0 n0 v U'.heap L ∧ FrameEnd U o U' L ({ frames := 5, cells := 1, slots := 150, locals := 100 } : Room).cells ({ frames := 5, cells := 1, slots := 150, locals := 100 } : Room).slots) := by
  refine MetFree.of_bodySF (plainFor_of_name pn_30) hisR ?_
  intro p e s m args below meth c s₁ Bd hml0 hP hK
  obtain ⟨rfl, hZ, hh⟩ := hP
  have hx := Bd.exec
  have hby := Bd.bytes
  have hml : c.maxLocals = 2 := hml0
  have hown : s.vm.findClass "java/lang/String" = some m.cls := findClass_of_methodNamed Bd.named
  have hnm := (name_of_methodNamed Bd.named Bd.method).1
  have X0 : Stand p l e ({ frames := 5, cells := 1, slots := 150, locals := 100 } : Room) s m #[(.ref x), (.ref b)] below meth c s₁ [] 0 0 := Stand.of_body Bd
  have e0 : s₁.heap = h0 := by rw [← hh, Bd.state]; rfl
  have N0 := Fr.nil n0
  show Ends p.tables e below (fun (s₂ : State) (o : Outcome) => ∃ v L, o = .returned v ∧ (Q30 Z x b d zA zn A n_ zc h0 n0) v s₂.heap L ∧ FrameEnd s o s₂ L ({ frames := 5, cells := 1, slots := 150, locals := 100 } : Room).cells ({ frames := 5, cells := 1, slots := 150, locals := 100 } : Room).slots) (s₁.setTop (entryFrame m #[(.ref x), (.ref b)] 2))
  refine Ends.any fun G hG => ?_
  refine Ends.go (fun t k => castTop (ef_30 m x b) k) ?_
  show Ends p.tables e below G (s₁.setTop (mkF m 0 #[rv x, rv b] []))
  obtain ⟨uv_, Fx1⟩ := Fx
  obtain ⟨uc_, Fy1⟩ := Fy
  obtain ⟨Eb_b, Fv_b, Fc_b, Fn_b, Ba_b, Ea_b⟩ := SB
  have ne_b_d : b ≠ d := Exa.ne Eb_b Ea_b (by decide)
  have ne_b_x : b ≠ x := Exa.ne Eb_b Ex (by decide)
  have ne_x_d : x ≠ d := Exa.ne Ex Ea_b (by decide)
  refine Ends.go (fun _ => XS.aloadN X0.here hx rfl (hb hby d30_0) rfl rfl) ?_
  show Ends p.tables e below G (s₁.setTop (mkF m 1 #[rv x, rv b] [(.ref x)]))
  refine Ends.go (fun _ => XS.aloadN X0.here hx rfl (hb hby d30_1) rfl rfl) ?_
  show Ends p.tables e below G (s₁.setTop (mkF m 2 #[rv x, rv b] [(.ref b), (.ref x)]))
  refine Ends.go (fun _ => XS.aconstNull X0.here hx rfl (hb hby d30_2)) ?_
  show Ends p.tables e below G (s₁.setTop (mkF m 3 #[rv x, rv b] [.null, (.ref b), (.ref x)]))
  obtain ⟨_, _, ⟨T1, L1, k1, n1⟩, -, X1, ⟨Lc1, hQ1, l1, y1, z1⟩, st1⟩ := X0.specialBack hx (y := (⟨"java/lang/String", "<init>", "(Ljava/lang/AbstractStringBuilder;Ljava/lang/Void;)V"⟩ : MethodName)) rfl hown (mvT hZ (hw _ (List.mem_of_getElem? (i := 166) rfl))) (mvT hZ (hw _ (List.mem_of_getElem? (i := 167) rfl))) (mvT hZ (hw _ (List.mem_of_getElem? (i := 168) rfl))) (by decide) (backOf (W := 0) (rm31 l Z a0 hw [] x b d zA zn A n_ zc h0 n0 Z0 O0 SC hzc Ex ⟨_, Fx1⟩ ⟨_, Fy1⟩ g_x ⟨Eb_b, Fv_b, Fc_b, Fn_b, Ba_b, Ea_b⟩ hA hn_ hbd) hZ (hw _ (List.mem_of_getElem? (i := 168) rfl)) (hw _ (List.mem_of_getElem? (i := 7) rfl)) (by decide) (by decide)) (g := (mkF m 3 #[rv x, rv b] [.null, (.ref b), (.ref x)])) rfl (by rw [hml]; rfl) (Steps.refl _) (a := x) (argsL := [(.ref b), .null]) (rest := []) (lenOf pd_21 rfl) rfl (by show 2 * 0 + _ ≤ _; exact Nat.le_of_eq rfl) (hb hby d30_3) (fun _ _ => ⟨rfl, e0, (by decide : 0 + 1 ≤ _), (by decide : 0 + 150 ≤ _)⟩)
  dsimp only [Pt.U, Pt.locs, Pt.cells, Pt.slots] at X1 l1 y1 z1 st1 hQ1
  subst l1 y1 z1
  obtain ⟨rfl, N1q, Kq1⟩ := hQ1
  have N1 := Fr.app N0 N1q
  have f1_E_x := Exa.keep Ex Kq1
  have f1_E_b := Exa.keep Eb_b Kq1
  have f1_F_b_value := Fld.keep Fv_b Kq1 (ninS ne_b_x nin0)
  have f1_F_b_coder := Fld.keep Fc_b Kq1 (ninS ne_b_x nin0)
  have f1_F_b_count := Fld.keep Fn_b Kq1 (ninS ne_b_x nin0)
  have f1_P_d := BA.keep Ba_b Kq1 (ninS (Ne.symm ne_x_d) nin0)
  have f1_E_d := Exa.keep Ea_b Kq1
  have sz1 := Nat.le_trans Z0 (Kq1).1
  have K1z := Keep.trans (Keep.refl h0 [x]) Kq1 (allS (Or.inl (List.mem_of_getElem? (i := 0) rfl)) all0)
  have O1 := Old.keep O0 Kq1 (allS g_x all0)
  refine Ends.go (fun _ => st1.trans) ?_
  show Ends p.tables e below G (T1.setTop (mkF m 6 #[rv x, rv b] []))
  refine own_finN X1 hx Bd.returns Bd.notSynchronized (hb hby d30_6) (Q := (Q30 Z x b d zA zn A n_ zc h0 n0)) hG (by decide) (by decide) ?_
  show (Q30 Z x b d zA zn A n_ zc h0 n0) _ T1.heap _
  exact ⟨rfl, N1, K1z⟩
theorem d29_0 : decode jdk_67_method_42_code 0 = .ok (.new 18, 3) := by decide +kernel
theorem d29_3 : decode jdk_67_method_42_code 3 = .ok (.dup, 1) := by decide +kernel
theorem d29_4 : decode jdk_67_method_42_code 4 = .ok (.aload_n 0, 1) := by decide +kernel
theorem d29_5 : decode jdk_67_method_42_code 5 = .ok (.invokespecial 137, 3) := by decide +kernel
theorem pd_22 : parseMethodDescriptor "(Ljava/lang/StringBuilder;)V" = some ⟨[(.object "java/lang/StringBuilder")], none⟩ := by decide +kernel
theorem d29_8 : decode jdk_67_method_42_code 8 = .ok (.areturn, 1) := by decide +kernel
theorem pn_29 : plainName "java/lang/StringBuilder" = true := by first | (simp [plainName, overriddenIn]; done) | decide +kernel
theorem ef_29 (m : MethodId) (x0 : Addr) : entryFrame m #[(.ref x0)] 1 = mkF m 0 #[rv x0] [] := by first | (simp [entryFrame, mkF, argsToLocals, Value.category]; done) | rfl
def Q29 (Z : State) (b : Addr) (d : Addr) (zA : Int32) (zn : Int32) (A : Nat) (n_ : Nat) (zc : Int32) (h0 : Heap) (n0 : Nat) (v : Option Value) (h : Heap) (L : List Loc) : Prop := ∃ x', v = some (.ref x') ∧ Fr n0 L ∧ Keep h0 h []
set_option maxRecDepth 65536 in
set_option maxHeartbeats 40000000 in
theorem rm29 (l : Launch) (Z : State) (a0 : Array Value) (hw : ∀ d ∈ tables_1, d.before a0 Z = true) (ws : List Jvm.Cond) (b : Addr) (d : Addr) (zA : Int32) (zn : Int32) (A : Nat) (n_ : Nat) (zc : Int32) (h0 : Heap) (n0 : Nat) (Z0 : n0 ≤ h0.size) (O0 : Old Z n0 h0) (SC : Sta Z Z.heap "java/lang/String" "COMPACT_STRINGS" "Z" (.int zc)) (hzc : ¬ (zc = (0 : Int32))) (SB : SBF Z h0 b d zA zn) (hA : zA.toInt = (A : Int)) (hn_ : zn.toInt = (n_ : Int)) (hbd : n_ ≤ A ∧ A ≤ 300 ∧ n_ ≤ 100) :
    MetFree l (⟨"java/lang/StringBuilder", "toString", "()Ljava/lang/String;"⟩ : MethodName) (head1 (Jvm.Cond.code (⟨"java/lang/StringBuilder", "toString", "()Ljava/lang/String;"⟩ : MethodName) jdk_67_method_42_code 1 (some (.object "java/lang/String")) :: ws) ({ frames := 6, cells := 2, slots := 154, locals := 120 } : Room)) (fun a U => a = #[(.ref b)] ∧ Z.Warmed39 U.vm ∧ U.heap = h0) (fun _ _ _ _ _ => True) (fun _ U o U' => ∃ v L, o = .returned v ∧ Q29 Z b d zA zn A n_ zc h0 n0 v U'.heap L ∧ FrameEnd U o U' L ({ frames := 6, cells := 2, slots := 154, locals := 120 } : Room).cells ({ frames := 6, cells := 2, slots := 154, locals := 120 } : Room).slots) := by
  refine MetFree.of_bodySF (plainFor_of_name pn_29) hisR ?_
  intro p e s m args below meth c s₁ Bd hml0 hP hK
  obtain ⟨rfl, hZ, hh⟩ := hP
  have hx := Bd.exec
  have hby := Bd.bytes
  have hml : c.maxLocals = 1 := hml0
  have hown : s.vm.findClass "java/lang/StringBuilder" = some m.cls := findClass_of_methodNamed Bd.named
  have hnm := (name_of_methodNamed Bd.named Bd.method).1
  have X0 : Stand p l e ({ frames := 6, cells := 2, slots := 154, locals := 120 } : Room) s m #[(.ref b)] below meth c s₁ [] 0 0 := Stand.of_body Bd
  have e0 : s₁.heap = h0 := by rw [← hh, Bd.state]; rfl
  have N0 := Fr.nil n0
  show Ends p.tables e below (fun (s₂ : State) (o : Outcome) => ∃ v L, o = .returned v ∧ (Q29 Z b d zA zn A n_ zc h0 n0) v s₂.heap L ∧ FrameEnd s o s₂ L ({ frames := 6, cells := 2, slots := 154, locals := 120 } : Room).cells ({ frames := 6, cells := 2, slots := 154, locals := 120 } : Room).slots) (s₁.setTop (entryFrame m #[(.ref b)] 1))
  refine Ends.any fun G hG => ?_
  refine Ends.go (fun t k => castTop (ef_29 m b) k) ?_
  show Ends p.tables e below G (s₁.setTop (mkF m 0 #[rv b] []))
  obtain ⟨Eb_b, Fv_b, Fc_b, Fn_b, Ba_b, Ea_b⟩ := SB
  have ne_b_d : b ≠ d := Exa.ne Eb_b Ea_b (by decide)
  obtain ⟨T1, h1, X1, e1, E1, A1, D1, -, st1⟩ := newO X0 hx hZ hown (hw _ (List.mem_of_getElem? (i := 162) rfl)) (hw _ (List.mem_of_getElem? (i := 6) rfl)) (hw _ (List.mem_of_getElem? (i := 7) rfl)) e0 (g := (mkF m 0 #[rv b] [])) rfl (hb hby d29_0) (by decide) (by decide)
  obtain ⟨b1, g1⟩ : ∃ z, z = h0.size := ⟨_, rfl⟩
  rw [← g1] at A1 D1 st1
  have g_b1 : n0 ≤ b1 := Nat.le_trans Z0 (Nat.le_of_eq g1.symm)
  have szo_b1 : h0.size ≤ b1 := Nat.le_trans ((Keep.refl h0 [])).1 (Nat.le_of_eq g1.symm)
  have ne_b_b1 : b ≠ b1 := Nat.ne_of_lt (Nat.lt_of_lt_of_le Eb_b.lt (Nat.le_of_eq g1.symm))
  have ne_d_b1 : d ≠ b1 := Nat.ne_of_lt (Nat.lt_of_lt_of_le Ea_b.lt (Nat.le_of_eq g1.symm))
  have f1_E_b := Eb_b.ext E1
  have f1_F_b_value := Fv_b.ext E1
  have f1_F_b_coder := Fc_b.ext E1
  have f1_F_b_count := Fn_b.ext E1
  have f1_P_d := BA.ext Ba_b E1
  have f1_E_d := Ea_b.ext E1
  have sz1 := Nat.le_trans Z0 E1.1
  have K1 := Keep.ext (Keep.refl h0 []) E1
  have O1 := Old.ext O0 E1
  have F1_coder : Fld Z h1 b1 "java/lang/String" "coder" "B" (.int (0 : Int32)) := D1 (Or.inr (hw _ (List.mem_of_getElem? (i := 31) rfl))) (ty := .byte) (by decide)
  have F1_value : Fld Z h1 b1 "java/lang/String" "value" "[B" .null := D1 (Or.inr (hw _ (List.mem_of_getElem? (i := 33) rfl))) (ty := (.array .byte)) (by decide)
  refine Ends.go (fun _ => st1 _) ?_
  show Ends p.tables e below G (T1.setTop (mkF m 3 #[rv b] [(.ref b1)]))
  refine Ends.go (fun _ => XS.dup X1.here hx rfl (hb hby d29_3) rfl rfl) ?_
  show Ends p.tables e below G (T1.setTop (mkF m 4 #[rv b] [(.ref b1), (.ref b1)]))
  refine Ends.go (fun _ => XS.aloadN X1.here hx rfl (hb hby d29_4) rfl rfl) ?_
  show Ends p.tables e below G (T1.setTop (mkF m 5 #[rv b] [(.ref b), (.ref b1), (.ref b1)]))
  obtain ⟨_, _, ⟨T2, L2, k2, n2⟩, -, X2, ⟨Lc2, hQ2, l2, y2, z2⟩, st2⟩ := X1.specialBack hx (y := (⟨"java/lang/String", "<init>", "(Ljava/lang/StringBuilder;)V"⟩ : MethodName)) rfl hown (mvT hZ (hw _ (List.mem_of_getElem? (i := 163) rfl))) (mvT hZ (hw _ (List.mem_of_getElem? (i := 164) rfl))) (mvT hZ (hw _ (List.mem_of_getElem? (i := 165) rfl))) (by decide) (backOf (W := 1) (rm30 l Z a0 hw [] b1 b d zA zn A n_ zc h1 n0 sz1 O1 SC hzc A1 ⟨_, F1_value⟩ ⟨_, F1_coder⟩ g_b1 ⟨f1_E_b, f1_F_b_value, f1_F_b_coder, f1_F_b_count, f1_P_d, f1_E_d⟩ hA hn_ hbd) hZ (hw _ (List.mem_of_getElem? (i := 165) rfl)) (hw _ (List.mem_of_getElem? (i := 7) rfl)) (by decide) (by decide)) (g := (mkF m 5 #[rv b] [(.ref b), (.ref b1), (.ref b1)])) rfl (by rw [hml]; rfl) (Steps.refl _) (a := b1) (argsL := [(.ref b)]) (rest := [(.ref b1)]) (lenOf pd_22 rfl) rfl (by show 2 * 0 + _ ≤ _; exact Nat.le_of_eq rfl) (hb hby d29_5) (fun _ _ => ⟨rfl, e1, (by decide : (0 + 1) + 1 ≤ _), (by decide : (0 + 4) + 150 ≤ _)⟩)
  dsimp only [Pt.U, Pt.locs, Pt.cells, Pt.slots] at X2 l2 y2 z2 st2 hQ2
  subst l2 y2 z2
  obtain ⟨rfl, N2q, Kq2⟩ := hQ2
  have N2 := Fr.app N0 N2q
  have f2_E_b := Exa.keep f1_E_b Kq2
  have f2_F_b_value := Fld.keep f1_F_b_value Kq2 (ninS ne_b_b1 nin0)
  have f2_F_b_coder := Fld.keep f1_F_b_coder Kq2 (ninS ne_b_b1 nin0)
  have f2_F_b_count := Fld.keep f1_F_b_count Kq2 (ninS ne_b_b1 nin0)
  have f2_P_d := BA.keep f1_P_d Kq2 (ninS ne_d_b1 nin0)
  have f2_E_d := Exa.keep f1_E_d Kq2
  have f2_E_b1 := Exa.keep A1 Kq2
  have sz2 := Nat.le_trans sz1 (Kq2).1
  have K2z := Keep.trans K1 Kq2 (allS (Or.inr szo_b1) all0)
  have O2 := Old.keep O1 Kq2 (allS g_b1 all0)
  refine Ends.go (fun _ => st2.trans) ?_
  show Ends p.tables e below G (T2.setTop (mkF m 8 #[rv b] [(.ref b1)]))
  refine own_finR X2 hx Bd.returns rfl Bd.notSynchronized (hb hby d29_8) (Q := (Q29 Z b d zA zn A n_ zc h0 n0)) hG (by decide) (by decide) ?_
  show (Q29 Z b d zA zn A n_ zc h0 n0) _ T2.heap _
  exact ⟨b1, rfl, N2, K2z⟩
theorem d10_0 : decode jdk_68_method_2_code 0 = .ok (.aload_n 0, 1) := by decide +kernel
theorem d10_1 : decode jdk_68_method_2_code 1 = .ok (.invokespecial 3, 3) := by decide +kernel
theorem d10_4 : decode jdk_68_method_2_code 4 = .ok (.getstatic 18, 3) := by decide +kernel
theorem d10_7 : decode jdk_68_method_2_code 7 = .ok (.ifCond .eq 18, 3) := by decide +kernel
theorem d10_10 : decode jdk_68_method_2_code 10 = .ok (.aload_n 0, 1) := by decide +kernel
theorem d10_11 : decode jdk_68_method_2_code 11 = .ok (.iload_n 1, 1) := by decide +kernel
theorem d10_12 : decode jdk_68_method_2_code 12 = .ok (.newarray .byte, 2) := by decide +kernel
theorem d10_14 : decode jdk_68_method_2_code 14 = .ok (.putfield 15, 3) := by decide +kernel
theorem d10_17 : decode jdk_68_method_2_code 17 = .ok (.aload_n 0, 1) := by decide +kernel
theorem d10_18 : decode jdk_68_method_2_code 18 = .ok (.iconst 0, 1) := by decide +kernel
theorem d10_19 : decode jdk_68_method_2_code 19 = .ok (.putfield 22, 3) := by decide +kernel
theorem d10_22 : decode jdk_68_method_2_code 22 = .ok (.goto 16, 3) := by decide +kernel
theorem d10_25 : decode jdk_68_method_2_code 25 = .ok (.aload_n 0, 1) := by decide +kernel
theorem d10_26 : decode jdk_68_method_2_code 26 = .ok (.iload_n 1, 1) := by decide +kernel
theorem d10_27 : decode jdk_68_method_2_code 27 = .ok (.invokestatic 26, 3) := by decide +kernel
theorem d10_30 : decode jdk_68_method_2_code 30 = .ok (.putfield 15, 3) := by decide +kernel
theorem d10_33 : decode jdk_68_method_2_code 33 = .ok (.aload_n 0, 1) := by decide +kernel
theorem d10_34 : decode jdk_68_method_2_code 34 = .ok (.iconst 1, 1) := by decide +kernel
theorem d10_35 : decode jdk_68_method_2_code 35 = .ok (.putfield 22, 3) := by decide +kernel
theorem d10_38 : decode jdk_68_method_2_code 38 = .ok (.return_, 1) := by decide +kernel
theorem pn_10 : plainName "java/lang/AbstractStringBuilder" = true := by first | (simp [plainName, overriddenIn]; done) | decide +kernel
theorem ef_10 (m : MethodId) (x0 : Addr) (x1 : Int32) : entryFrame m #[(.ref x0), (.int x1)] 2 = mkF m 0 #[rv x0, iv x1] [] := by first | (simp [entryFrame, mkF, argsToLocals, Value.category]; done) | rfl
def Q10 (Z : State) (b : Addr) (zc : Int32) (h0 : Heap) (n0 : Nat) (v : Option Value) (h : Heap) (L : List Loc) : Prop := ∃ d', v = none ∧ Fr n0 L ∧ Keep h0 h [b] ∧ SBF Z h b d' (16 : Int32) (0 : Int32) ∧ h0.size ≤ d' ∧ n0 ≤ d'
set_option maxRecDepth 65536 in
set_option maxHeartbeats 40000000 in
theorem rm10 (l : Launch) (Z : State) (a0 : Array Value) (hw : ∀ d ∈ tables_1, d.before a0 Z = true) (ws : List Jvm.Cond) (b : Addr) (zc : Int32) (h0 : Heap) (n0 : Nat) (Z0 : n0 ≤ h0.size) (O0 : Old Z n0 h0) (SC : Sta Z Z.heap "java/lang/String" "COMPACT_STRINGS" "Z" (.int zc)) (hzc : ¬ (zc = (0 : Int32))) (Eb0 : Exa Z h0 b "java/lang/StringBuilder") (Fv0 : ∃ u, Fld Z h0 b "java/lang/AbstractStringBuilder" "value" "[B" u) (Fc0 : ∃ u, Fld Z h0 b "java/lang/AbstractStringBuilder" "coder" "B" u) (Fn0 : Fld Z h0 b "java/lang/AbstractStringBuilder" "count" "I" (.int 0)) (g_b : n0 ≤ b) :
    MetFree l (⟨"java/lang/AbstractStringBuilder", "<init>", "(I)V"⟩ : MethodName) (head1 (Jvm.Cond.code (⟨"java/lang/AbstractStringBuilder", "<init>", "(I)V"⟩ : MethodName) jdk_68_method_2_code 2 none :: ws) ({ frames := 2, cells := 1, slots := 16, locals := 40 } : Room)) (fun a U => a = #[(.ref b), (.int (16 : Int32))] ∧ Z.Warmed39 U.vm ∧ U.heap = h0) (fun _ _ _ _ _ => True) (fun _ U o U' => ∃ v L, o = .returned v ∧ Q10 Z b zc h0 n0 v U'.heap L ∧ FrameEnd U o U' L ({ frames := 2, cells := 1, slots := 16, locals := 40 } : Room).cells ({ frames := 2, cells := 1, slots := 16, locals := 40 } : Room).slots) := by
  refine MetFree.of_bodySF (plainFor_of_name pn_10) hisR ?_
  intro p e s m args below meth c s₁ Bd hml0 hP hK
  obtain ⟨rfl, hZ, hh⟩ := hP
  have hx := Bd.exec
  have hby := Bd.bytes
  have hml : c.maxLocals = 2 := hml0
  have hown : s.vm.findClass "java/lang/AbstractStringBuilder" = some m.cls := findClass_of_methodNamed Bd.named
  have hnm := (name_of_methodNamed Bd.named Bd.method).1
  have X0 : Stand p l e ({ frames := 2, cells := 1, slots := 16, locals := 40 } : Room) s m #[(.ref b), (.int (16 : Int32))] below meth c s₁ [] 0 0 := Stand.of_body Bd
  have e0 : s₁.heap = h0 := by rw [← hh, Bd.state]; rfl
  have N0 := Fr.nil n0
  show Ends p.tables e below (fun (s₂ : State) (o : Outcome) => ∃ v L, o = .returned v ∧ (Q10 Z b zc h0 n0) v s₂.heap L ∧ FrameEnd s o s₂ L ({ frames := 2, cells := 1, slots := 16, locals := 40 } : Room).cells ({ frames := 2, cells := 1, slots := 16, locals := 40 } : Room).slots) (s₁.setTop (entryFrame m #[(.ref b), (.int (16 : Int32))] 2))
  refine Ends.any fun G hG => ?_
  refine Ends.go (fun t k => castTop (ef_10 m b (16 : Int32)) k) ?_
  show Ends p.tables e below G (s₁.setTop (mkF m 0 #[rv b, iv (16 : Int32)] []))
  obtain ⟨uv_, Fv1⟩ := Fv0
  obtain ⟨uc_, Fc1⟩ := Fc0
  refine Ends.go (fun _ => XS.aloadN X0.here hx rfl (hb hby d10_0) rfl rfl) ?_
  show Ends p.tables e below G (s₁.setTop (mkF m 1 #[rv b, iv (16 : Int32)] [(.ref b)]))
  obtain ⟨T1, X1, e1, st1⟩ := initO X0 hx hZ hown (hw _ (List.mem_of_getElem? (i := 52) rfl)) (hw _ (List.mem_of_getElem? (i := 16) rfl)) (hw _ (List.mem_of_getElem? (i := 17) rfl)) e0 (g := (mkF m 1 #[rv b, iv (16 : Int32)] [(.ref b)])) rfl (by rw [hml]; rfl) rfl (hb hby d10_1) (by decide) (W := 0) (by show 2 * 0 + _ ≤ _; exact Nat.le_of_eq rfl) (by decide)
  refine Ends.go (fun _ => st1 _) ?_
  show Ends p.tables e below G (T1.setTop (mkF m 4 #[rv b, iv (16 : Int32)] []))
  obtain ⟨T2, X2, e2, st2⟩ := getS2 X1 hx hZ hown (host := "") (Or.inl (hw _ (List.mem_of_getElem? (i := 53) rfl))) Via.refl e1 (Sta.ext O0.2 SC) (g := (mkF m 4 #[rv b, iv (16 : Int32)] [])) rfl (hb hby d10_4)
  refine Ends.go (fun _ => st2 _) ?_
  show Ends p.tables e below G (T2.setTop (mkF m 7 #[rv b, iv (16 : Int32)] [(.int zc)]))
  refine Ends.go (fun _ => XS.ifNo X2.here hx rfl (hb hby d10_7) rfl ((if0 _ _).trans (feq (hzc : ¬ (zc = (0 : Int32)))).1)) ?_
  show Ends p.tables e below G (T2.setTop (mkF m 10 #[rv b, iv (16 : Int32)] []))
  refine Ends.go (fun _ => XS.aloadN X2.here hx rfl (hb hby d10_10) rfl rfl) ?_
  show Ends p.tables e below G (T2.setTop (mkF m 11 #[rv b, iv (16 : Int32)] [(.ref b)]))
  refine Ends.go (fun _ => XS.iloadN X2.here hx rfl (hb hby d10_11) rfl) ?_
  show Ends p.tables e below G (T2.setTop (mkF m 12 #[rv b, iv (16 : Int32)] [(.int (16 : Int32)), (.ref b)]))
  obtain ⟨T3, h3, k3, X3, e3, E3, A3, Y3, st3⟩ := newPE X2 hx hZ (hw _ (List.mem_of_getElem? (i := 23) rfl)) e2 (g := (mkF m 12 #[rv b, iv (16 : Int32)] [(.int (16 : Int32)), (.ref b)])) rfl (hb hby d10_12) rfl (by decide) (cap := 16) (by decide) (by decide) (by decide) (by decide) (ad := "[B") (by decide)
  obtain ⟨b3, g3⟩ : ∃ z, z = h0.size := ⟨_, rfl⟩
  rw [← g3] at A3 Y3 st3
  have g_b3 : n0 ≤ b3 := Nat.le_trans Z0 (Nat.le_of_eq g3.symm)
  have szo_b3 : h0.size ≤ b3 := Nat.le_trans ((Keep.refl h0 [b])).1 (Nat.le_of_eq g3.symm)
  have ne_b_b3 : b ≠ b3 := Nat.ne_of_lt (Nat.lt_of_lt_of_le Eb0.lt (Nat.le_of_eq g3.symm))
  have f3_E_b := Eb0.ext E3
  have f3_F_b_value := Fv1.ext E3
  have f3_F_b_coder := Fc1.ext E3
  have f3_F_b_count := Fn0.ext E3
  have sz3 := Nat.le_trans Z0 E3.1
  have K3 := Keep.ext (Keep.refl h0 [b]) E3
  have O3 := Old.ext O0 E3
  have V3 : BA Z h3 b3 (16 : Int32) := BA.new A3 (by decide)
  refine Ends.go (fun _ => st3 _) ?_
  show Ends p.tables e below G (T3.setTop (mkF m 14 #[rv b, iv (16 : Int32)] [(.ref b3), (.ref b)]))
  obtain ⟨T4, h4, X4, e4, W4, st4⟩ := putF X3 hx hZ hown (host := "") (Or.inl (hw _ (List.mem_of_getElem? (i := 54) rfl))) Via.refl e3 f3_F_b_value f3_E_b (Or.inl (hw _ (List.mem_of_getElem? (i := 55) rfl))) (hw _ (List.mem_of_getElem? (i := 41) rfl)) (ty := (.array .byte)) (by decide) rfl rfl (g := (mkF m 14 #[rv b, iv (16 : Int32)] [(.ref b3), (.ref b)])) rfl rfl (hb hby d10_14)
  have f4_E_b := f3_E_b.wr W4
  have f4_F_b_value := f3_F_b_value.same W4
  have f4_F_b_coder := f3_F_b_coder.other W4 (Or.inr (slot_ne (Or.inl (hw _ (List.mem_of_getElem? (i := 57) rfl))) (Or.inl (hw _ (List.mem_of_getElem? (i := 55) rfl))) (by decide) (t := .byte) (t' := (.array .byte)) (by decide) (by decide)))
  have f4_F_b_count := f3_F_b_count.other W4 (Or.inr (slot_ne (Or.inl (hw _ (List.mem_of_getElem? (i := 82) rfl))) (Or.inl (hw _ (List.mem_of_getElem? (i := 55) rfl))) (by decide) (t := .int) (t' := (.array .byte)) (by decide) (by decide)))
  have f4_E_b3 := Y3.wr W4
  have sz4 := Nat.le_trans sz3 (Nat.le_of_eq W4.size.symm)
  have K4 := Keep.wr K3 W4 (Or.inl (List.mem_of_getElem? (i := 0) rfl))
  have N4 := Fr.snoc X4 N0 g_b
  have f4_P_b3 := BA.other V3 W4 (Ne.symm ne_b_b3)
  have O4 := Old.wr O3 W4 g_b
  refine Ends.go (fun _ => st4 _) ?_
  show Ends p.tables e below G (T4.setTop (mkF m 17 #[rv b, iv (16 : Int32)] []))
  refine Ends.go (fun _ => XS.aloadN X4.here hx rfl (hb hby d10_17) rfl rfl) ?_
  show Ends p.tables e below G (T4.setTop (mkF m 18 #[rv b, iv (16 : Int32)] [(.ref b)]))
  refine Ends.go (fun _ => XS.iconst X4.here hx rfl (hb hby d10_18)) ?_
  show Ends p.tables e below G (T4.setTop (mkF m 19 #[rv b, iv (16 : Int32)] [(.int (0 : Int32)), (.ref b)]))
  obtain ⟨T5, h5, X5, e5, W5, st5⟩ := putFN X4 hx hZ hown (hw _ (List.mem_of_getElem? (i := 56) rfl)) Via.refl e4 f4_F_b_coder f4_E_b (Or.inl (hw _ (List.mem_of_getElem? (i := 57) rfl))) (hw _ (List.mem_of_getElem? (i := 41) rfl)) (ty := .byte) (v' := (.int (nar .byte (0 : Int32)))) (by decide) rfl (fits_nar_byte _) (g := (mkF m 19 #[rv b, iv (16 : Int32)] [(.int (0 : Int32)), (.ref b)])) rfl rfl (hb hby d10_19)
  have f5_E_b := f4_E_b.wr W5
  have f5_F_b_value := f4_F_b_value.other W5 (Or.inr (slot_ne (Or.inl (hw _ (List.mem_of_getElem? (i := 55) rfl))) (Or.inl (hw _ (List.mem_of_getElem? (i := 57) rfl))) (by decide) (t := (.array .byte)) (t' := .byte) (by decide) (by decide)))
  have f5_F_b_coder := f4_F_b_coder.same W5
  have f5_F_b_count := f4_F_b_count.other W5 (Or.inr (slot_ne (Or.inl (hw _ (List.mem_of_getElem? (i := 82) rfl))) (Or.inl (hw _ (List.mem_of_getElem? (i := 57) rfl))) (by decide) (t := .int) (t' := .byte) (by decide) (by decide)))
  have f5_E_b3 := f4_E_b3.wr W5
  have sz5 := Nat.le_trans sz4 (Nat.le_of_eq W5.size.symm)
  have K5 := Keep.wr K4 W5 (Or.inl (List.mem_of_getElem? (i := 0) rfl))
  have N5 := Fr.snoc X5 N4 g_b
  have f5_P_b3 := BA.other f4_P_b3 W5 (Ne.symm ne_b_b3)
  have O5 := Old.wr O4 W5 g_b
  refine Ends.go (fun _ => st5 _) ?_
  show Ends p.tables e below G (T5.setTop (mkF m 22 #[rv b, iv (16 : Int32)] []))
  refine Ends.go (fun _ => XS.goto X5.here hx rfl (pc0 := 22) (pc' := 38) rfl (hb hby d10_22) (by decide) (by decide)) ?_
  show Ends p.tables e below G (T5.setTop (mkF m 38 #[rv b, iv (16 : Int32)] []))
  have fco : Fld Z h5 b "java/lang/AbstractStringBuilder" "coder" "B" (.int 0) := f5_F_b_coder
  refine own_finN X5 hx Bd.returns Bd.notSynchronized (hb hby d10_38) (Q := (Q10 Z b zc h0 n0)) hG (by decide) (by decide) ?_
  show (Q10 Z b zc h0 n0) _ T5.heap _
  rw [e5]
  exact ⟨b3, rfl, N5, K5, ⟨f5_E_b, f5_F_b_value, fco, f5_F_b_count, f5_P_b3, f5_E_b3⟩, szo_b3, g_b3⟩
theorem d9_0 : decode jdk_67_method_1_code 0 = .ok (.aload_n 0, 1) := by decide +kernel
theorem d9_1 : decode jdk_67_method_1_code 1 = .ok (.bipush 16, 2) := by decide +kernel
theorem d9_3 : decode jdk_67_method_1_code 3 = .ok (.invokespecial 1, 3) := by decide +kernel
theorem d9_6 : decode jdk_67_method_1_code 6 = .ok (.return_, 1) := by decide +kernel
theorem pn_9 : plainName "java/lang/StringBuilder" = true := by first | (simp [plainName, overriddenIn]; done) | decide +kernel
theorem ef_9 (m : MethodId) (x0 : Addr) : entryFrame m #[(.ref x0)] 1 = mkF m 0 #[rv x0] [] := by first | (simp [entryFrame, mkF, argsToLocals, Value.category]; done) | rfl
def Q9 (Z : State) (b : Addr) (zc : Int32) (h0 : Heap) (n0 : Nat) (v : Option Value) (h : Heap) (L : List Loc) : Prop := ∃ d', v = none ∧ Fr n0 L ∧ Keep h0 h [b] ∧ SBF Z h b d' (16 : Int32) (0 : Int32) ∧ h0.size ≤ d' ∧ n0 ≤ d'
set_option maxRecDepth 65536 in
set_option maxHeartbeats 40000000 in
theorem rm9 (l : Launch) (Z : State) (a0 : Array Value) (hw : ∀ d ∈ tables_1, d.before a0 Z = true) (ws : List Jvm.Cond) (b : Addr) (zc : Int32) (h0 : Heap) (n0 : Nat) (Z0 : n0 ≤ h0.size) (O0 : Old Z n0 h0) (SC : Sta Z Z.heap "java/lang/String" "COMPACT_STRINGS" "Z" (.int zc)) (hzc : ¬ (zc = (0 : Int32))) (Eb0 : Exa Z h0 b "java/lang/StringBuilder") (Fv0 : ∃ u, Fld Z h0 b "java/lang/AbstractStringBuilder" "value" "[B" u) (Fc0 : ∃ u, Fld Z h0 b "java/lang/AbstractStringBuilder" "coder" "B" u) (Fn0 : Fld Z h0 b "java/lang/AbstractStringBuilder" "count" "I" (.int 0)) (g_b : n0 ≤ b) :
    MetFree l (⟨"java/lang/StringBuilder", "<init>", "()V"⟩ : MethodName) (head1 (Jvm.Cond.code (⟨"java/lang/StringBuilder", "<init>", "()V"⟩ : MethodName) jdk_67_method_1_code 1 none :: ws) ({ frames := 3, cells := 1, slots := 16, locals := 60 } : Room)) (fun a U => a = #[(.ref b)] ∧ Z.Warmed39 U.vm ∧ U.heap = h0) (fun _ _ _ _ _ => True) (fun _ U o U' => ∃ v L, o = .returned v ∧ Q9 Z b zc h0 n0 v U'.heap L ∧ FrameEnd U o U' L ({ frames := 3, cells := 1, slots := 16, locals := 60 } : Room).cells ({ frames := 3, cells := 1, slots := 16, locals := 60 } : Room).slots) := by
  refine MetFree.of_bodySF (plainFor_of_name pn_9) hisR ?_
  intro p e s m args below meth c s₁ Bd hml0 hP hK
  obtain ⟨rfl, hZ, hh⟩ := hP
  have hx := Bd.exec
  have hby := Bd.bytes
  have hml : c.maxLocals = 1 := hml0
  have hown : s.vm.findClass "java/lang/StringBuilder" = some m.cls := findClass_of_methodNamed Bd.named
  have hnm := (name_of_methodNamed Bd.named Bd.method).1
  have X0 : Stand p l e ({ frames := 3, cells := 1, slots := 16, locals := 60 } : Room) s m #[(.ref b)] below meth c s₁ [] 0 0 := Stand.of_body Bd
  have e0 : s₁.heap = h0 := by rw [← hh, Bd.state]; rfl
  have N0 := Fr.nil n0
  show Ends p.tables e below (fun (s₂ : State) (o : Outcome) => ∃ v L, o = .returned v ∧ (Q9 Z b zc h0 n0) v s₂.heap L ∧ FrameEnd s o s₂ L ({ frames := 3, cells := 1, slots := 16, locals := 60 } : Room).cells ({ frames := 3, cells := 1, slots := 16, locals := 60 } : Room).slots) (s₁.setTop (entryFrame m #[(.ref b)] 1))
  refine Ends.any fun G hG => ?_
  refine Ends.go (fun t k => castTop (ef_9 m b) k) ?_
  show Ends p.tables e below G (s₁.setTop (mkF m 0 #[rv b] []))
  obtain ⟨uv_, Fv1⟩ := Fv0
  obtain ⟨uc_, Fc1⟩ := Fc0
  refine Ends.go (fun _ => XS.aloadN X0.here hx rfl (hb hby d9_0) rfl rfl) ?_
  show Ends p.tables e below G (s₁.setTop (mkF m 1 #[rv b] [(.ref b)]))
  refine Ends.go (fun _ => XS.bipush X0.here hx rfl (hb hby d9_1)) ?_
  show Ends p.tables e below G (s₁.setTop (mkF m 3 #[rv b] [(.int (16 : Int32)), (.ref b)]))
  obtain ⟨_, _, ⟨T1, L1, k1, n1⟩, -, X1, ⟨Lc1, hQ1, l1, y1, z1⟩, st1⟩ := X0.specialBack hx (y := (⟨"java/lang/AbstractStringBuilder", "<init>", "(I)V"⟩ : MethodName)) rfl hown (mvT hZ (hw _ (List.mem_of_getElem? (i := 46) rfl))) (mvT hZ (hw _ (List.mem_of_getElem? (i := 47) rfl))) (mvT hZ (hw _ (List.mem_of_getElem? (i := 51) rfl))) (by decide) (backOf (W := 0) (rm10 l Z a0 hw [] b zc h0 n0 Z0 O0 SC hzc Eb0 ⟨_, Fv1⟩ ⟨_, Fc1⟩ Fn0 g_b) hZ (hw _ (List.mem_of_getElem? (i := 51) rfl)) (hw _ (List.mem_of_getElem? (i := 50) rfl)) (by decide) (by decide)) (g := (mkF m 3 #[rv b] [(.int (16 : Int32)), (.ref b)])) rfl (by rw [hml]; rfl) (Steps.refl _) (a := b) (argsL := [(.int (16 : Int32))]) (rest := []) (lenOf pd_10 rfl) rfl (by show 2 * 0 + _ ≤ _; exact Nat.le_of_eq rfl) (hb hby d9_3) (fun _ _ => ⟨rfl, e0, (by decide : 0 + 1 ≤ _), (by decide : 0 + 16 ≤ _)⟩)
  dsimp only [Pt.U, Pt.locs, Pt.cells, Pt.slots] at X1 l1 y1 z1 st1 hQ1
  subst l1 y1 z1
  obtain ⟨dn1, rfl, N1q, Kq1, Sq1, gs1, gq1⟩ := hQ1
  have N1 := Fr.app N0 N1q
  have f1_E_b := Exa.keep Eb0 Kq1
  have sz1 := Nat.le_trans Z0 (Kq1).1
  have K1z := Keep.trans (Keep.refl h0 [b]) Kq1 (allS (Or.inl (List.mem_of_getElem? (i := 0) rfl)) all0)
  have O1 := Old.keep O0 Kq1 (allS g_b all0)
  refine Ends.go (fun _ => st1.trans) ?_
  show Ends p.tables e below G (T1.setTop (mkF m 6 #[rv b] []))
  refine own_finN X1 hx Bd.returns Bd.notSynchronized (hb hby d9_6) (Q := (Q9 Z b zc h0 n0)) hG (by decide) (by decide) ?_
  show (Q9 Z b zc h0 n0) _ T1.heap _
  exact ⟨dn1, rfl, N1, K1z, Sq1, gs1, gq1⟩
theorem d1_0 : decode method_2_code 0 = .ok (.iload_n 0, 1) := by decide +kernel
theorem d1_1 : decode method_2_code 1 = .ok (.ifCond .ne 7, 3) := by decide +kernel
theorem d1_4 : decode method_2_code 4 = .ok (.sipush 406, 3) := by decide +kernel
theorem d1_7 : decode method_2_code 7 = .ok (.ireturn, 1) := by decide +kernel
theorem d1_8 : decode method_2_code 8 = .ok (.iload_n 0, 1) := by decide +kernel
theorem d1_9 : decode method_2_code 9 = .ok (.iconst 1, 1) := by decide +kernel
theorem d1_10 : decode method_2_code 10 = .ok (.if_icmp .ne 17, 3) := by decide +kernel
theorem d1_13 : decode method_2_code 13 = .ok (.iload_n 1, 1) := by decide +kernel
theorem d1_14 : decode method_2_code 14 = .ok (.iconst 1, 1) := by decide +kernel
theorem d1_15 : decode method_2_code 15 = .ok (.iand, 1) := by decide +kernel
theorem d1_16 : decode method_2_code 16 = .ok (.ifCond .ne 7, 3) := by decide +kernel
theorem d1_19 : decode method_2_code 19 = .ok (.sipush 405, 3) := by decide +kernel
theorem d1_22 : decode method_2_code 22 = .ok (.ireturn, 1) := by decide +kernel
theorem d1_23 : decode method_2_code 23 = .ok (.sipush 407, 3) := by decide +kernel
theorem d1_26 : decode method_2_code 26 = .ok (.ireturn, 1) := by decide +kernel
theorem d1_27 : decode method_2_code 27 = .ok (.iload_n 1, 1) := by decide +kernel
theorem d1_28 : decode method_2_code 28 = .ok (.ireturn, 1) := by decide +kernel
theorem pn_1 : plainName "com/example/dispatchbook/dispatchbook/amqp/BrokerClosedExceptionRefusedMessagePinLaw" = true := by first | (simp [plainName, overriddenIn]; done) | decide +kernel
theorem ef_1 (m : MethodId) (x0 : Int32) (x1 : Int32) : entryFrame m #[(.int x0), (.int x1)] 2 = mkF m 0 #[iv x0, iv x1] [] := by first | (simp [entryFrame, mkF, argsToLocals, Value.category]; done) | rfl
def Q1 (Z : State) (za : Int32) (zb : Int32) (h0 : Heap) (n0 : Nat) (v : Option Value) (h : Heap) (L : List Loc) : Prop := ∃ r, v = some (.int r) ∧ Fr n0 L ∧ h = h0
set_option maxRecDepth 65536 in
set_option maxHeartbeats 40000000 in
theorem rm1 (l : Launch) (Z : State) (a0 : Array Value) (hw : ∀ d ∈ tables_1, d.before a0 Z = true) (ws : List Jvm.Cond) (za : Int32) (zb : Int32) (h0 : Heap) (n0 : Nat) (Z0 : n0 ≤ h0.size) :
    MetFree l (⟨"com/example/dispatchbook/dispatchbook/amqp/BrokerClosedExceptionRefusedMessagePinLaw", "pickCode", "(II)I"⟩ : MethodName) (head1 (Jvm.Cond.code (⟨"com/example/dispatchbook/dispatchbook/amqp/BrokerClosedExceptionRefusedMessagePinLaw", "pickCode", "(II)I"⟩ : MethodName) method_2_code 2 (some .int) :: ws) ({ frames := 1, cells := 0, slots := 0, locals := 20 } : Room)) (fun a U => a = #[(.int za), (.int zb)] ∧ Z.Warmed39 U.vm ∧ U.heap = h0) (fun _ _ _ _ _ => True) (fun _ U o U' => ∃ v L, o = .returned v ∧ Q1 Z za zb h0 n0 v U'.heap L ∧ FrameEnd U o U' L ({ frames := 1, cells := 0, slots := 0, locals := 20 } : Room).cells ({ frames := 1, cells := 0, slots := 0, locals := 20 } : Room).slots) := by
  refine MetFree.of_bodySF (plainFor_of_name pn_1) hisR ?_
  intro p e s m args below meth c s₁ Bd hml0 hP hK
  obtain ⟨rfl, hZ, hh⟩ := hP
  have hx := Bd.exec
  have hby := Bd.bytes
  have hml : c.maxLocals = 2 := hml0
  have hown : s.vm.findClass "com/example/dispatchbook/dispatchbook/amqp/BrokerClosedExceptionRefusedMessagePinLaw" = some m.cls := findClass_of_methodNamed Bd.named
  have hnm := (name_of_methodNamed Bd.named Bd.method).1
  have X0 : Stand p l e ({ frames := 1, cells := 0, slots := 0, locals := 20 } : Room) s m #[(.int za), (.int zb)] below meth c s₁ [] 0 0 := Stand.of_body Bd
  have e0 : s₁.heap = h0 := by rw [← hh, Bd.state]; rfl
  have N0 := Fr.nil n0
  show Ends p.tables e below (fun (s₂ : State) (o : Outcome) => ∃ v L, o = .returned v ∧ (Q1 Z za zb h0 n0) v s₂.heap L ∧ FrameEnd s o s₂ L ({ frames := 1, cells := 0, slots := 0, locals := 20 } : Room).cells ({ frames := 1, cells := 0, slots := 0, locals := 20 } : Room).slots) (s₁.setTop (entryFrame m #[(.int za), (.int zb)] 2))
  refine Ends.any fun G hG => ?_
  refine Ends.go (fun t k => castTop (ef_1 m za zb) k) ?_
  show Ends p.tables e below G (s₁.setTop (mkF m 0 #[iv za, iv zb] []))
  refine Ends.go (fun _ => XS.iloadN X0.here hx rfl (hb hby d1_0) rfl) ?_
  show Ends p.tables e below G (s₁.setTop (mkF m 1 #[iv za, iv zb] [(.int za)]))
  by_cases h1_ : za = (0 : Int32)
  · refine Ends.go (fun _ => XS.ifNo X0.here hx rfl (hb hby d1_1) rfl ((if0 _ _).trans (teq (h1_ : za = (0 : Int32))).2)) ?_
    show Ends p.tables e below G (s₁.setTop (mkF m 4 #[iv za, iv zb] []))
    refine Ends.go (fun _ => XS.sipush X0.here hx rfl (hb hby d1_4)) ?_
    show Ends p.tables e below G (s₁.setTop (mkF m 7 #[iv za, iv zb] [(.int (406 : Int32))]))
    refine own_finI X0 hx Bd.returns Bd.notSynchronized (hb hby d1_7) (Q := (Q1 Z za zb h0 n0)) hG (by decide) (by decide) ?_
    show (Q1 Z za zb h0 n0) _ s₁.heap _
    rw [e0]
    exact ⟨_, rfl, N0, rfl⟩
  · refine Ends.go (fun _ => XS.ifYes X0.here hx rfl (pc0 := 1) (pc' := 8) rfl (hb hby d1_1) rfl ((if0 _ _).trans (feq (h1_ : ¬ (za = (0 : Int32)))).2) (by decide) (by decide)) ?_
    show Ends p.tables e below G (s₁.setTop (mkF m 8 #[iv za, iv zb] []))
    refine Ends.go (fun _ => XS.iloadN X0.here hx rfl (hb hby d1_8) rfl) ?_
    show Ends p.tables e below G (s₁.setTop (mkF m 9 #[iv za, iv zb] [(.int za)]))
    refine Ends.go (fun _ => XS.iconst X0.here hx rfl (hb hby d1_9)) ?_
    show Ends p.tables e below G (s₁.setTop (mkF m 10 #[iv za, iv zb] [(.int (1 : Int32)), (.int za)]))
    by_cases h2_ : za = (1 : Int32)
    · refine Ends.go (fun _ => XS.icmpNo X0.here hx rfl (hb hby d1_10) rfl (teq (h2_ : za = (1 : Int32))).2) ?_
      show Ends p.tables e below G (s₁.setTop (mkF m 13 #[iv za, iv zb] []))
      refine Ends.go (fun _ => XS.iloadN X0.here hx rfl (hb hby d1_13) rfl) ?_
      show Ends p.tables e below G (s₁.setTop (mkF m 14 #[iv za, iv zb] [(.int zb)]))
      refine Ends.go (fun _ => XS.iconst X0.here hx rfl (hb hby d1_14)) ?_
      show Ends p.tables e below G (s₁.setTop (mkF m 15 #[iv za, iv zb] [(.int (1 : Int32)), (.int zb)]))
      refine Ends.go (fun _ => XS.iand X0.here hx rfl (hb hby d1_15) rfl) ?_
      show Ends p.tables e below G (s₁.setTop (mkF m 16 #[iv za, iv zb] [(.int (zb &&& (1 : Int32)))]))
      by_cases h3_ : (zb &&& (1 : Int32)) = (0 : Int32)
      · refine Ends.go (fun _ => XS.ifNo X0.here hx rfl (hb hby d1_16) rfl ((if0 _ _).trans (teq (h3_ : (zb &&& (1 : Int32)) = (0 : Int32))).2)) ?_
        show Ends p.tables e below G (s₁.setTop (mkF m 19 #[iv za, iv zb] []))
        refine Ends.go (fun _ => XS.sipush X0.here hx rfl (hb hby d1_19)) ?_
        show Ends p.tables e below G (s₁.setTop (mkF m 22 #[iv za, iv zb] [(.int (405 : Int32))]))
        refine own_finI X0 hx Bd.returns Bd.notSynchronized (hb hby d1_22) (Q := (Q1 Z za zb h0 n0)) hG (by decide) (by decide) ?_
        show (Q1 Z za zb h0 n0) _ s₁.heap _
        rw [e0]
        exact ⟨_, rfl, N0, rfl⟩
      · refine Ends.go (fun _ => XS.ifYes X0.here hx rfl (pc0 := 16) (pc' := 23) rfl (hb hby d1_16) rfl ((if0 _ _).trans (feq (h3_ : ¬ ((zb &&& (1 : Int32)) = (0 : Int32)))).2) (by decide) (by decide)) ?_
        show Ends p.tables e below G (s₁.setTop (mkF m 23 #[iv za, iv zb] []))
        refine Ends.go (fun _ => XS.sipush X0.here hx rfl (hb hby d1_23)) ?_
        show Ends p.tables e below G (s₁.setTop (mkF m 26 #[iv za, iv zb] [(.int (407 : Int32))]))
        refine own_finI X0 hx Bd.returns Bd.notSynchronized (hb hby d1_26) (Q := (Q1 Z za zb h0 n0)) hG (by decide) (by decide) ?_
        show (Q1 Z za zb h0 n0) _ s₁.heap _
        rw [e0]
        exact ⟨_, rfl, N0, rfl⟩
    · refine Ends.go (fun _ => XS.icmpYes X0.here hx rfl (pc0 := 10) (pc' := 27) rfl (hb hby d1_10) rfl (feq (h2_ : ¬ (za = (1 : Int32)))).2 (by decide) (by decide)) ?_
      show Ends p.tables e below G (s₁.setTop (mkF m 27 #[iv za, iv zb] []))
      refine Ends.go (fun _ => XS.iloadN X0.here hx rfl (hb hby d1_27) rfl) ?_
      show Ends p.tables e below G (s₁.setTop (mkF m 28 #[iv za, iv zb] [(.int zb)]))
      refine own_finI X0 hx Bd.returns Bd.notSynchronized (hb hby d1_28) (Q := (Q1 Z za zb h0 n0)) hG (by decide) (by decide) ?_
      show (Q1 Z za zb h0 n0) _ s₁.heap _
      rw [e0]
      exact ⟨_, rfl, N0, rfl⟩
theorem d44_0 : decode method_3_code 0 = .ok (.iload_n 0, 1) := by decide +kernel
theorem d44_1 : decode method_3_code 1 = .ok (.ifCond .ne 5, 3) := by decide +kernel
theorem d44_4 : decode method_3_code 4 = .ok (.iconst 0, 1) := by decide +kernel
theorem d44_5 : decode method_3_code 5 = .ok (.ireturn, 1) := by decide +kernel
theorem d44_6 : decode method_3_code 6 = .ok (.iload_n 1, 1) := by decide +kernel
theorem d44_7 : decode method_3_code 7 = .ok (.sipush 406, 3) := by decide +kernel
theorem d44_10 : decode method_3_code 10 = .ok (.if_icmp .ne 5, 3) := by decide +kernel
theorem d44_13 : decode method_3_code 13 = .ok (.iconst 1, 1) := by decide +kernel
theorem d44_14 : decode method_3_code 14 = .ok (.ireturn, 1) := by decide +kernel
theorem d44_15 : decode method_3_code 15 = .ok (.iconst 0, 1) := by decide +kernel
theorem d44_16 : decode method_3_code 16 = .ok (.ireturn, 1) := by decide +kernel
theorem pn_44 : plainName "com/example/dispatchbook/dispatchbook/amqp/BrokerClosedExceptionRefusedMessagePinLaw" = true := by first | (simp [plainName, overriddenIn]; done) | decide +kernel
theorem ef_44 (m : MethodId) (x0 : Int32) (x1 : Int32) : entryFrame m #[(.int x0), (.int x1)] 2 = mkF m 0 #[iv x0, iv x1] [] := by first | (simp [entryFrame, mkF, argsToLocals, Value.category]; done) | rfl
def Q44 (Z : State) (za : Int32) (zb : Int32) (h0 : Heap) (n0 : Nat) (v : Option Value) (h : Heap) (L : List Loc) : Prop := v = some (.int (own_E za zb)) ∧ Fr n0 L ∧ h = h0
set_option maxRecDepth 65536 in
set_option maxHeartbeats 40000000 in
theorem rm44 (l : Launch) (Z : State) (a0 : Array Value) (hw : ∀ d ∈ tables_1, d.before a0 Z = true) (ws : List Jvm.Cond) (za : Int32) (zb : Int32) (h0 : Heap) (n0 : Nat) (Z0 : n0 ≤ h0.size) :
    MetFree l (⟨"com/example/dispatchbook/dispatchbook/amqp/BrokerClosedExceptionRefusedMessagePinLaw", "expected", "(ZI)Z"⟩ : MethodName) (head1 (Jvm.Cond.code (⟨"com/example/dispatchbook/dispatchbook/amqp/BrokerClosedExceptionRefusedMessagePinLaw", "expected", "(ZI)Z"⟩ : MethodName) method_3_code 2 (some .boolean) :: ws) ({ frames := 1, cells := 0, slots := 0, locals := 20 } : Room)) (fun a U => a = #[(.int za), (.int zb)] ∧ Z.Warmed39 U.vm ∧ U.heap = h0) (fun _ _ _ _ _ => True) (fun _ U o U' => ∃ v L, o = .returned v ∧ Q44 Z za zb h0 n0 v U'.heap L ∧ FrameEnd U o U' L ({ frames := 1, cells := 0, slots := 0, locals := 20 } : Room).cells ({ frames := 1, cells := 0, slots := 0, locals := 20 } : Room).slots) := by
  refine MetFree.of_bodySF (plainFor_of_name pn_44) hisR ?_
  intro p e s m args below meth c s₁ Bd hml0 hP hK
  obtain ⟨rfl, hZ, hh⟩ := hP
  have hx := Bd.exec
  have hby := Bd.bytes
  have hml : c.maxLocals = 2 := hml0
  have hown : s.vm.findClass "com/example/dispatchbook/dispatchbook/amqp/BrokerClosedExceptionRefusedMessagePinLaw" = some m.cls := findClass_of_methodNamed Bd.named
  have hnm := (name_of_methodNamed Bd.named Bd.method).1
  have X0 : Stand p l e ({ frames := 1, cells := 0, slots := 0, locals := 20 } : Room) s m #[(.int za), (.int zb)] below meth c s₁ [] 0 0 := Stand.of_body Bd
  have e0 : s₁.heap = h0 := by rw [← hh, Bd.state]; rfl
  have N0 := Fr.nil n0
  show Ends p.tables e below (fun (s₂ : State) (o : Outcome) => ∃ v L, o = .returned v ∧ (Q44 Z za zb h0 n0) v s₂.heap L ∧ FrameEnd s o s₂ L ({ frames := 1, cells := 0, slots := 0, locals := 20 } : Room).cells ({ frames := 1, cells := 0, slots := 0, locals := 20 } : Room).slots) (s₁.setTop (entryFrame m #[(.int za), (.int zb)] 2))
  refine Ends.any fun G hG => ?_
  refine Ends.go (fun t k => castTop (ef_44 m za zb) k) ?_
  show Ends p.tables e below G (s₁.setTop (mkF m 0 #[iv za, iv zb] []))
  refine Ends.go (fun _ => XS.iloadN X0.here hx rfl (hb hby d44_0) rfl) ?_
  show Ends p.tables e below G (s₁.setTop (mkF m 1 #[iv za, iv zb] [(.int za)]))
  by_cases h1_ : za = (0 : Int32)
  · refine Ends.go (fun _ => XS.ifNo X0.here hx rfl (hb hby d44_1) rfl ((if0 _ _).trans (teq (h1_ : za = (0 : Int32))).2)) ?_
    show Ends p.tables e below G (s₁.setTop (mkF m 4 #[iv za, iv zb] []))
    refine Ends.go (fun _ => XS.iconst X0.here hx rfl (hb hby d44_4)) ?_
    show Ends p.tables e below G (s₁.setTop (mkF m 5 #[iv za, iv zb] [(.int (0 : Int32))]))
    refine own_finS (t := .boolean) X0 hx Bd.returns (by simp) Bd.notSynchronized (hb hby d44_5) (Q := (Q44 Z za zb h0 n0)) hG (by decide) (by decide) ?_
    show (Q44 Z za zb h0 n0) _ s₁.heap _
    rw [e0]
    exact ⟨by rw [own_E, if_pos h1_] <;> rfl, N0, rfl⟩
  · refine Ends.go (fun _ => XS.ifYes X0.here hx rfl (pc0 := 1) (pc' := 6) rfl (hb hby d44_1) rfl ((if0 _ _).trans (feq (h1_ : ¬ (za = (0 : Int32)))).2) (by decide) (by decide)) ?_
    show Ends p.tables e below G (s₁.setTop (mkF m 6 #[iv za, iv zb] []))
    refine Ends.go (fun _ => XS.iloadN X0.here hx rfl (hb hby d44_6) rfl) ?_
    show Ends p.tables e below G (s₁.setTop (mkF m 7 #[iv za, iv zb] [(.int zb)]))
    refine Ends.go (fun _ => XS.sipush X0.here hx rfl (hb hby d44_7)) ?_
    show Ends p.tables e below G (s₁.setTop (mkF m 10 #[iv za, iv zb] [(.int (406 : Int32)), (.int zb)]))
    by_cases h2_ : zb = (406 : Int32)
    · refine Ends.go (fun _ => XS.icmpNo X0.here hx rfl (hb hby d44_10) rfl (teq (h2_ : zb = (406 : Int32))).2) ?_
      show Ends p.tables e below G (s₁.setTop (mkF m 13 #[iv za, iv zb] []))
      refine Ends.go (fun _ => XS.iconst X0.here hx rfl (hb hby d44_13)) ?_
      show Ends p.tables e below G (s₁.setTop (mkF m 14 #[iv za, iv zb] [(.int (1 : Int32))]))
      refine own_finS (t := .boolean) X0 hx Bd.returns (by simp) Bd.notSynchronized (hb hby d44_14) (Q := (Q44 Z za zb h0 n0)) hG (by decide) (by decide) ?_
      show (Q44 Z za zb h0 n0) _ s₁.heap _
      rw [e0]
      exact ⟨by rw [own_E, if_neg h1_, if_pos h2_] <;> rfl, N0, rfl⟩
    · refine Ends.go (fun _ => XS.icmpYes X0.here hx rfl (pc0 := 10) (pc' := 15) rfl (hb hby d44_10) rfl (feq (h2_ : ¬ (zb = (406 : Int32)))).2 (by decide) (by decide)) ?_
      show Ends p.tables e below G (s₁.setTop (mkF m 15 #[iv za, iv zb] []))
      refine Ends.go (fun _ => XS.iconst X0.here hx rfl (hb hby d44_15)) ?_
      show Ends p.tables e below G (s₁.setTop (mkF m 16 #[iv za, iv zb] [(.int (0 : Int32))]))
      refine own_finS (t := .boolean) X0 hx Bd.returns (by simp) Bd.notSynchronized (hb hby d44_16) (Q := (Q44 Z za zb h0 n0)) hG (by decide) (by decide) ?_
      show (Q44 Z za zb h0 n0) _ s₁.heap _
      rw [e0]
      exact ⟨by rw [own_E, if_neg h1_, if_neg h2_] <;> rfl, N0, rfl⟩
theorem d43_0 : decode prog_8_method_3_code 0 = .ok (.aload_n 0, 1) := by decide +kernel
theorem d43_1 : decode prog_8_method_3_code 1 = .ok (.getfield 33, 3) := by decide +kernel
theorem d43_4 : decode prog_8_method_3_code 4 = .ok (.ifCond .eq 17, 3) := by decide +kernel
theorem d43_7 : decode prog_8_method_3_code 7 = .ok (.aload_n 0, 1) := by decide +kernel
theorem d43_8 : decode prog_8_method_3_code 8 = .ok (.getfield 38, 3) := by decide +kernel
theorem d43_11 : decode prog_8_method_3_code 11 = .ok (.sipush 406, 3) := by decide +kernel
theorem d43_14 : decode prog_8_method_3_code 14 = .ok (.if_icmp .ne 7, 3) := by decide +kernel
theorem d43_17 : decode prog_8_method_3_code 17 = .ok (.iconst 1, 1) := by decide +kernel
theorem d43_18 : decode prog_8_method_3_code 18 = .ok (.goto 4, 3) := by decide +kernel
theorem d43_21 : decode prog_8_method_3_code 21 = .ok (.iconst 0, 1) := by decide +kernel
theorem d43_22 : decode prog_8_method_3_code 22 = .ok (.ireturn, 1) := by decide +kernel
theorem pn_43 : plainName "com/example/dispatchbook/dispatchbook/amqp/BrokerClosedException" = true := by first | (simp [plainName, overriddenIn]; done) | decide +kernel
theorem ef_43 (m : MethodId) (x0 : Addr) : entryFrame m #[(.ref x0)] 1 = mkF m 0 #[rv x0] [] := by first | (simp [entryFrame, mkF, argsToLocals, Value.category]; done) | rfl
def Q43 (Z : State) (b : Addr) (za : Int32) (zb : Int32) (h0 : Heap) (n0 : Nat) (v : Option Value) (h : Heap) (L : List Loc) : Prop := v = some (.int (own_E za zb)) ∧ Fr n0 L ∧ h = h0
set_option maxRecDepth 65536 in
set_option maxHeartbeats 40000000 in
theorem rm43 (l : Launch) (Z : State) (a0 : Array Value) (hw : ∀ d ∈ tables_1, d.before a0 Z = true) (ws : List Jvm.Cond) (b : Addr) (za : Int32) (zb : Int32) (h0 : Heap) (n0 : Nat) (Z0 : n0 ≤ h0.size) (F1_ : Fld Z h0 b "com/example/dispatchbook/dispatchbook/amqp/BrokerClosedException" "channel" "Z" (.int za)) (F2_ : Fld Z h0 b "com/example/dispatchbook/dispatchbook/amqp/BrokerClosedException" "replyCode" "I" (.int zb)) :
    MetFree l (⟨"com/example/dispatchbook/dispatchbook/amqp/BrokerClosedException", "refusedMessage", "()Z"⟩ : MethodName) (head1 (Jvm.Cond.code (⟨"com/example/dispatchbook/dispatchbook/amqp/BrokerClosedException", "refusedMessage", "()Z"⟩ : MethodName) prog_8_method_3_code 1 (some .boolean) :: ws) ({ frames := 1, cells := 0, slots := 0, locals := 20 } : Room)) (fun a U => a = #[(.ref b)] ∧ Z.Warmed39 U.vm ∧ U.heap = h0) (fun _ _ _ _ _ => True) (fun _ U o U' => ∃ v L, o = .returned v ∧ Q43 Z b za zb h0 n0 v U'.heap L ∧ FrameEnd U o U' L ({ frames := 1, cells := 0, slots := 0, locals := 20 } : Room).cells ({ frames := 1, cells := 0, slots := 0, locals := 20 } : Room).slots) := by
  refine MetFree.of_bodySF (plainFor_of_name pn_43) hisR ?_
  intro p e s m args below meth c s₁ Bd hml0 hP hK
  obtain ⟨rfl, hZ, hh⟩ := hP
  have hx := Bd.exec
  have hby := Bd.bytes
  have hml : c.maxLocals = 1 := hml0
  have hown : s.vm.findClass "com/example/dispatchbook/dispatchbook/amqp/BrokerClosedException" = some m.cls := findClass_of_methodNamed Bd.named
  have hnm := (name_of_methodNamed Bd.named Bd.method).1
  have X0 : Stand p l e ({ frames := 1, cells := 0, slots := 0, locals := 20 } : Room) s m #[(.ref b)] below meth c s₁ [] 0 0 := Stand.of_body Bd
  have e0 : s₁.heap = h0 := by rw [← hh, Bd.state]; rfl
  have N0 := Fr.nil n0
  show Ends p.tables e below (fun (s₂ : State) (o : Outcome) => ∃ v L, o = .returned v ∧ (Q43 Z b za zb h0 n0) v s₂.heap L ∧ FrameEnd s o s₂ L ({ frames := 1, cells := 0, slots := 0, locals := 20 } : Room).cells ({ frames := 1, cells := 0, slots := 0, locals := 20 } : Room).slots) (s₁.setTop (entryFrame m #[(.ref b)] 1))
  refine Ends.any fun G hG => ?_
  refine Ends.go (fun t k => castTop (ef_43 m b) k) ?_
  show Ends p.tables e below G (s₁.setTop (mkF m 0 #[rv b] []))
  refine Ends.go (fun _ => XS.aloadN X0.here hx rfl (hb hby d43_0) rfl rfl) ?_
  show Ends p.tables e below G (s₁.setTop (mkF m 1 #[rv b] [(.ref b)]))
  obtain ⟨T1, X1, e1, st1⟩ := getF X0 hx hZ hown (host := "") (Or.inl (hw _ (List.mem_of_getElem? (i := 246) rfl))) Via.refl e0 F1_ (g := (mkF m 1 #[rv b] [(.ref b)])) rfl rfl (hb hby d43_1)
  refine Ends.go (fun _ => st1 _) ?_
  show Ends p.tables e below G (T1.setTop (mkF m 4 #[rv b] [(.int za)]))
  by_cases h1_ : za = (0 : Int32)
  · refine Ends.go (fun _ => XS.ifYes X1.here hx rfl (pc0 := 4) (pc' := 21) rfl (hb hby d43_4) rfl ((if0 _ _).trans (teq (h1_ : za = (0 : Int32))).1) (by decide) (by decide)) ?_
    show Ends p.tables e below G (T1.setTop (mkF m 21 #[rv b] []))
    refine Ends.go (fun _ => XS.iconst X1.here hx rfl (hb hby d43_21)) ?_
    show Ends p.tables e below G (T1.setTop (mkF m 22 #[rv b] [(.int (0 : Int32))]))
    refine own_finS (t := .boolean) X1 hx Bd.returns (by simp) Bd.notSynchronized (hb hby d43_22) (Q := (Q43 Z b za zb h0 n0)) hG (by decide) (by decide) ?_
    show (Q43 Z b za zb h0 n0) _ T1.heap _
    rw [e1]
    exact ⟨by rw [own_E, if_pos h1_] <;> rfl, N0, rfl⟩
  · refine Ends.go (fun _ => XS.ifNo X1.here hx rfl (hb hby d43_4) rfl ((if0 _ _).trans (feq (h1_ : ¬ (za = (0 : Int32)))).1)) ?_
    show Ends p.tables e below G (T1.setTop (mkF m 7 #[rv b] []))
    refine Ends.go (fun _ => XS.aloadN X1.here hx rfl (hb hby d43_7) rfl rfl) ?_
    show Ends p.tables e below G (T1.setTop (mkF m 8 #[rv b] [(.ref b)]))
    obtain ⟨T2, X2, e2, st2⟩ := getF X1 hx hZ hown (host := "") (Or.inl (hw _ (List.mem_of_getElem? (i := 248) rfl))) Via.refl e1 F2_ (g := (mkF m 8 #[rv b] [(.ref b)])) rfl rfl (hb hby d43_8)
    refine Ends.go (fun _ => st2 _) ?_
    show Ends p.tables e below G (T2.setTop (mkF m 11 #[rv b] [(.int zb)]))
    refine Ends.go (fun _ => XS.sipush X2.here hx rfl (hb hby d43_11)) ?_
    show Ends p.tables e below G (T2.setTop (mkF m 14 #[rv b] [(.int (406 : Int32)), (.int zb)]))
    by_cases h2_ : zb = (406 : Int32)
    · refine Ends.go (fun _ => XS.icmpNo X2.here hx rfl (hb hby d43_14) rfl (teq (h2_ : zb = (406 : Int32))).2) ?_
      show Ends p.tables e below G (T2.setTop (mkF m 17 #[rv b] []))
      refine Ends.go (fun _ => XS.iconst X2.here hx rfl (hb hby d43_17)) ?_
      show Ends p.tables e below G (T2.setTop (mkF m 18 #[rv b] [(.int (1 : Int32))]))
      refine Ends.go (fun _ => XS.goto X2.here hx rfl (pc0 := 18) (pc' := 22) rfl (hb hby d43_18) (by decide) (by decide)) ?_
      show Ends p.tables e below G (T2.setTop (mkF m 22 #[rv b] [(.int (1 : Int32))]))
      refine own_finS (t := .boolean) X2 hx Bd.returns (by simp) Bd.notSynchronized (hb hby d43_22) (Q := (Q43 Z b za zb h0 n0)) hG (by decide) (by decide) ?_
      show (Q43 Z b za zb h0 n0) _ T2.heap _
      rw [e2]
      exact ⟨by rw [own_E, if_neg h1_, if_pos h2_] <;> rfl, N0, rfl⟩
    · refine Ends.go (fun _ => XS.icmpYes X2.here hx rfl (pc0 := 14) (pc' := 21) rfl (hb hby d43_14) rfl (feq (h2_ : ¬ (zb = (406 : Int32)))).2 (by decide) (by decide)) ?_
      show Ends p.tables e below G (T2.setTop (mkF m 21 #[rv b] []))
      refine Ends.go (fun _ => XS.iconst X2.here hx rfl (hb hby d43_21)) ?_
      show Ends p.tables e below G (T2.setTop (mkF m 22 #[rv b] [(.int (0 : Int32))]))
      refine own_finS (t := .boolean) X2 hx Bd.returns (by simp) Bd.notSynchronized (hb hby d43_22) (Q := (Q43 Z b za zb h0 n0)) hG (by decide) (by decide) ?_
      show (Q43 Z b za zb h0 n0) _ T2.heap _
      rw [e2]
      exact ⟨by rw [own_E, if_neg h1_, if_neg h2_] <;> rfl, N0, rfl⟩
abbrev EL : List (String × Nat) := consts_1
section OwnW
variable {Z : State} {a0 : Array Value}
theorem own_EW (hw : ∀ d ∈ tables_1, d.before a0 Z = true) : EW Z a0 EL := EW.cons (hw _ (List.mem_of_getElem? (i := 58) rfl)) (by decide +kernel) (EW.cons (hw _ (List.mem_of_getElem? (i := 258) rfl)) (by decide +kernel) (EW.cons (hw _ (List.mem_of_getElem? (i := 131) rfl)) (by decide +kernel) (EW.cons (hw _ (List.mem_of_getElem? (i := 132) rfl)) (by decide +kernel) (EW.cons (hw _ (List.mem_of_getElem? (i := 156) rfl)) (by decide +kernel) (EW.nil)))))
theorem own_wS (hw : ∀ d ∈ tables_1, d.before a0 Z = true) : ∀ a ∈ Bundle.stringAtoms, a.before a0 Z = true := by
  intro d hd
  simp only [Bundle.stringAtoms, List.mem_cons, List.not_mem_nil, or_false] at hd
  rcases hd with rfl | rfl | rfl | rfl | rfl | rfl | rfl
  · exact (hw _ (List.mem_of_getElem? (i := 7) rfl))
  · exact (hw _ (List.mem_of_getElem? (i := 6) rfl))
  · exact (hw _ (List.mem_of_getElem? (i := 23) rfl))
  · exact (hw _ (List.mem_of_getElem? (i := 33) rfl))
  · exact (hw _ (List.mem_of_getElem? (i := 31) rfl))
  · exact (hw _ (List.mem_of_getElem? (i := 59) rfl))
  · exact (hw _ (List.mem_of_getElem? (i := 60) rfl))
end OwnW
theorem own_safeA {Z : State} {vm : Vm} {h : Heap} {a : Addr} {ty : FieldType} {n : Nat} {f : Nat → Value} (hal : Z.vm.Alike vm) (F : AF Z h a ty n f) (ht : ty ≠ .byte) : Safe Z EL vm h a := by
  obtain ⟨c, A, -⟩ := F
  exact Safe.arr hal A ht
section OwnThr
open Jvm.Free.Exc Jvm.Bundle
variable {args : Array Value} {s Z : State}
/-- Throwable's tables, out of the sheet's words: it bears no word that Throwable itself lays suppressedExceptions, but that the class rc below it does -/
theorem own_thr {pl : Platform} {rc : String} (howns : pl.frameOwnsMonitors = true) (hfin : pl.finalization = false) (hpl : pl.magicAccessors = ({} : Platform).magicAccessors)
    (w : ∀ (i : Nat) (d : Cond), throwableAtoms[i]? = some d → i ≠ 18 → d.before args s = true) (bS : (Cond.lays rc tN "stackTrace" steD).before args s = true) (bP : (Cond.lays rc tN "suppressedExceptions" listD).before args s = true) :
    ∃ T : ThrowableC, T.Links pl s ∧ s.vm.findClass tN = some T.cT ∧ s.methodNamed? tFill = some T.fill ∧ s.methodNamed? tFill0 = some T.fill0 ∧ s.fieldFound? tN "stackTrace" steD = some (T.cT, T.kT, T.i17, T.fStack) ∧ s.fieldFound? tN "UNASSIGNED_STACK" steD = some (T.cT, T.kT, T.i13, T.fUnassigned) ∧ T.fStack.type = .array (.object "java/lang/StackTraceElement") := by
  obtain ⟨⟨cT, j0⟩, mN, n0, m0, nat0, code0, lock0, sig0⟩ := Cond.native_spec (w 5 _ rfl (by decide))
  have fc : s.vm.findClass tN = some cT := findClass_of_methodNamed n0
  obtain ⟨kT, ck, nmT⟩ := Vm.findClass_spec fc
  obtain ⟨_, ksup, _, _, ck', _, _, ord, _, nif⟩ := Cond.superclass_spec fc (w 1 _ rfl (by decide))
  obtain rfl : kT = ksup := Option.some.inj (ck.symm.trans ck')
  -- the methods
  obtain ⟨jF, mF, nF, mF1, atF, stF, abF, -, -⟩ := Cond.ownMethod (x := tFill) fc ck (w 2 _ rfl (by decide))
  obtain ⟨mF2, cF, mF3, codeF, bytF, locF, retF, lockF, -, sigF⟩ := Cond.codeSync_spec nF (w 3 _ rfl (by decide))
  obtain rfl : mF = mF2 := Option.some.inj (mF1.symm.trans mF3)
  obtain ⟨jN, mN2, nN, mN3, atN, stN, abN, nmN, dsN⟩ := Cond.ownMethod (x := tFill0) fc ck (w 4 _ rfl (by decide))
  obtain rfl : j0 = jN := congrArg MethodId.idx (Option.some.inj (n0.symm.trans nN))
  obtain rfl : mN = mN2 := Option.some.inj (m0.symm.trans mN3)
  obtain ⟨jI, mI, nI, mI1, atI, -, -, -, -⟩ := Cond.ownMethod (x := tInit0) fc ck (w 6 _ rfl (by decide))
  obtain ⟨_, cI, _, _, _, _, _, _, _, _⟩ := Cond.code_spec nI (w 7 _ rfl (by decide))
  obtain ⟨mO, meO, nO, mO1, stO, abO⟩ := Cond.instanceMethod_spec (w 8 _ rfl (by decide))
  obtain ⟨meO2, cO, mO2, codeO, bytO, locO, -, lockO, -, sigO⟩ := Cond.code_spec nO (w 9 _ rfl (by decide))
  obtain rfl : meO = meO2 := Option.some.inj (mO1.symm.trans mO2)
  obtain ⟨kO, ckO, nmO⟩ := Vm.findClass_spec (findClass_of_methodNamed nO)
  obtain ⟨nameO, descO⟩ := name_of_methodNamed nO mO1
  -- the entries
  obtain ⟨a1, b1, cf1, l1, r1, f1, p1⟩ := Cond.linkedMethod fc ck nO (w 10 _ rfl (by decide)) pl hpl
  obtain ⟨a2, b2, cf2, l2, r2, f2, p2⟩ := Cond.linkedMethod fc ck nF (w 11 _ rfl (by decide)) pl hpl
  obtain ⟨a3, b3, cf3, l3, r3, f3, p3⟩ := Cond.linkedMethod fc ck n0 (w 12 _ rfl (by decide)) pl hpl
  obtain rfl : cf1 = cf2 := Option.some.inj (f1.symm.trans f2)
  obtain rfl : cf1 = cf3 := Option.some.inj (f1.symm.trans f3)
  obtain ⟨c7, i7, g7, k7, t7, at7, st7, fi7, -, -, -⟩ := Cond.ownField (t := .object tN) fc ck (by decide +kernel) (w 13 _ rfl (by decide)) (w 14 _ rfl (by decide)) pl hpl
  obtain ⟨c17, i17, g17, k17, t17, at17, st17, fi17, nm17, ty17, ff17⟩ := Cond.ownField (t := .array (.object "java/lang/StackTraceElement")) fc ck (by decide +kernel) (w 15 _ rfl (by decide)) bS pl hpl
  obtain ⟨c24, i24, g24, k24, t24, at24, st24, fi24, nm24, -, ff24⟩ := Cond.ownField (t := .object "java/util/List") fc ck (by decide +kernel) (w 17 _ rfl (by decide)) bP pl hpl
  obtain ⟨c13, i13, g13, aS, cS, k13, t13, at13, st13, -, -, sta, -, -, -, -, ff13⟩ := Cond.ownStatic (t := .array (.object "java/lang/StackTraceElement")) fc ck (by decide +kernel) (w 19 _ rfl (by decide)) (w 20 _ rfl (by decide)) pl hpl
  obtain ⟨c20, i20, g20, _, _, k20, t20, at20, st20, -, -, -, -, -, -, -, -⟩ := Cond.ownStatic (t := .object "java/util/List") fc ck (by decide +kernel) (w 21 _ rfl (by decide)) (w 22 _ rfl (by decide)) pl hpl
  obtain ⟨_, _, _, _, _, gM, -, -, -, stM, fiM, -⟩ := Cond.lays_spec (w 23 _ rfl (by decide))
  have apart : g17.slot ≠ g24.slot := by
    obtain ⟨cR, kR, _, _, _, _, fR, ckR, -⟩ := Cond.lays_spec bS
    obtain ⟨-, d1, e1, e2⟩ := Cond.laysAt fR ckR ff17 bS
    obtain ⟨-, d2, e3, e4⟩ := Cond.laysAt fR ckR ff24 bP
    exact Cond.laysApart e1 e3 e2 e4 (by rw [nm17, nm24]; decide)
  have parF : mF.sig.parameters = [] := by
    have q : parseMethodDescriptor tFill.desc = some ⟨[], some (.object tN)⟩ := by decide +kernel
    rw [Option.some.inj (sigF.symm.trans q)]
  have par0 : mN.sig.parameters = [.int] := by
    have q : parseMethodDescriptor tFill0.desc = some ⟨[.int], some (.object tN)⟩ := by decide +kernel
    rw [Option.some.inj (sig0.symm.trans q)]
  have parO : meO.sig.parameters.length = 0 := by
    have q : parseMethodDescriptor oInit.desc = some ⟨[], none⟩ := by decide +kernel
    rw [Option.some.inj (sigO.symm.trans q)]; rfl
  exact ⟨{ cT := cT, kT := kT, cO := cT, aS := aS, fillIdx := jF, fill0Idx := j0, initSIdx := jI, obj := mO, kObj := kO, methFill := mF, methFill0 := mN, methInitS := mI, methObj := meO, codeFill := cF, codeInitS := cI, codeObj := cO, fBack := g7, fDepth := g7, fStack := g17, fCause := g7, fSupp := g24, fMsg := gM, fUnassigned := g13, fSentinel := g20, cfT := cf1, ci1 := a1, n1 := b1, ci27 := a2, n27 := b2, ci202 := a3, n202 := b3, ci7 := c7, i7 := i7, ci13 := c13, i13 := i13, ci17 := c17, i17 := i17, ci20 := c20, i20 := i20, ci24 := c24, i24 := i24 }, { owns := howns, noFinalization := hfin, cls := ck, name := nmT, boot := Vm.findClass_boot fc ck, notInterface := nif, initialized := Cond.initialized_spec fc ck (w 0 _ rfl (by decide)), statics := sta, fillAt := atF, fillCode := codeF, fillBytes := bytF, fillLocals := locF, fillLocks := lockF, fillStatic := stF, fillAbstract := abF, fillReturns := retF, fillParams := parF, fill0At := atN, fill0Name := nmN, fill0Desc := dsN, fill0Params := par0, fill0Static := stN, fill0Native := nat0, fill0Code := code0, fill0Locks := lock0, fill0Abstract := abN, stackInstance := st17, stackNotFinal := fi17, unassignedStatic := st13, objClass := ckO, objClassName := nmO, objMethod := mO1, objName := nameO, objStatic := stO, objAbstract := abO, objFound := by rw [descO]; exact lookupSpecial_of_named nO mO1 stO, objParams := parO, objCode := codeO, objBytes := bytO, objLocks := lockO, causeInstance := st7, causeNotFinal := fi7, sentinelStatic := st20, suppInstance := st24, suppNotFinal := fi24, msgInstance := stM, msgNotFinal := fiM, stackApartSupp := apart, file := f1, mlink1 := l1, mright1 := r1, pool1 := p1, mlink27 := l2, mright27 := r2, pool27 := p2, mlink202 := l3, mright202 := r3, pool202 := p3, link7 := k7, right7 := t7, at7 := at7, link13 := k13, right13 := t13, at13 := at13, link17 := k17, right17 := t17, at17 := at17, link20 := k20, right20 := t20, at20 := at20, link24 := k24, right24 := t24, at24 := at24 }, fc, nF, n0, ff17, ff13, ty17⟩
theorem own_six {h : Heap} {a : Addr} {n d : String} {v : Value} (F : Fld Z h a tN n d v) (hn : (n, d) ∈ sixNames) (al : Z.vm.Alike s.vm) : Six s a ⟨a, Jvm.RoadKit.slotOf Z tN n d⟩ := by
  obtain ⟨cell, cf, k, i, f, -, h2, -⟩ := F
  obtain ⟨k', q, -⟩ := State.fieldFound?_setVm (s := Z) al h2
  exact ⟨(n, d), f, hn, ⟨_, _, _, q⟩, by simp [Jvm.RoadKit.slotOf, h2]⟩
theorem own_slotv {h : Heap} {a : Addr} {n d : String} {v : Value} (F : Fld Z h a tN n d v) (al : Z.vm.Alike s.vm) {cell : Cell} (hc : h[a]? = some cell) {c i : Nat} {k : Class} {f : Field} (g : s.fieldFound? tN n d = some (c, k, i, f)) : cell.slots[f.slot]? = some v := by
  obtain ⟨cell', cf, k', i', f', h1, h2, -, -, -, -, h7⟩ := F
  obtain rfl : cell = cell' := Option.some.inj (hc.symm.trans h1)
  obtain ⟨k2, q, -⟩ := State.fieldFound?_setVm (s := Z) al h2
  have e := (show s.fieldFound? tN n d = _ from q).symm.trans g
  simp only [Option.some.injEq, Prod.mk.injEq] at e
  rw [← e.2.2.2]; exact h7
theorem own_takes {C : Cell} {k : Class} {f : Field} {v : Value} (hk : s.vm.classes[C.cls]? = some k) (ho : k.kind = .ordinary) (hv : C.vm = .none) (hs : C.slots.size = k.instanceTypes.size) (ht : k.instanceTypes[f.slot]? = some f.type) (hf : fits f.type v = true) : Jvm.Takes s C f v :=
  ⟨by rw [hs]; exact (Array.getElem?_eq_some_iff.mp ht).1, by rw [hv]; simp [State.fitsSlot, State.slotType?, hk, ho, ht, hf]⟩
theorem own_kept {p : Program} {l : Launch} {e : Env} {R : Room} {m : MethodId} {below : List Frame} {meth : Method} {c : Code} {T : State} {locs : List Loc} {cells slots : Nat} (X : Stand p l e R s m args below meth c T locs cells slots) : Jvm.Free.Exc.Kept s T locs := fun y cy hy => by
  obtain ⟨c', q1, q2, q3, q4⟩ := X.same.2.2.2.2.2 y cy hy
  exact ⟨c', q1, q2, q3, q4⟩
theorem own_at : ∀ (i : Nat) (d : Cond), throwableAtoms[i]? = some d → i ≠ 18 → d ∈ tables_1 ∧ xOk d = true := by
  have q : ∀ p ∈ throwableAtoms.zipIdx, p.2 ≠ 18 → p.1 ∈ tables_1 ∧ xOk p.1 = true := by decide +kernel
  exact fun i d hi hn => q (d, i) (List.mem_zipIdx_iff_getElem?.mpr hi) hn
end OwnThr
theorem own_six_ne {Z : State} {a0 : Array Value} (hw : ∀ d ∈ tables_1, d.before a0 Z = true) {O n d : String} {ty : FieldType} (Lf : Laid Z a0 "com/example/dispatchbook/dispatchbook/amqp/BrokerClosedException" O n d) (ht : parseFieldDescriptor d = some ty) (hn : ∀ nd ∈ Jvm.Free.Exc.sixNames, nd.1 ≠ n) : ∀ nd ∈ Jvm.Free.Exc.sixNames, Jvm.RoadKit.slotOf Z "java/lang/Throwable" nd.1 nd.2 ≠ Jvm.RoadKit.slotOf Z O n d := fun nd hm => by
  have q := hn nd hm
  simp only [Jvm.Free.Exc.sixNames, List.mem_cons, List.not_mem_nil, or_false] at hm
  rcases hm with rfl | rfl | rfl | rfl | rfl | rfl
  · exact slot_ne (Or.inl (hw _ (List.mem_of_getElem? (i := 211) rfl))) Lf q (t := .object "java/lang/Throwable") (by decide) ht
  · exact slot_ne (Or.inl (hw _ (List.mem_of_getElem? (i := 214) rfl))) Lf q (t := .array (.object "java/lang/StackTraceElement")) (by decide) ht
  · exact slot_ne (Or.inl (hw _ (List.mem_of_getElem? (i := 217) rfl))) Lf q (t := .object "java/util/List") (by decide) ht
  · exact slot_ne (Or.inl (hw _ (List.mem_of_getElem? (i := 242) rfl))) Lf q (t := .object "java/lang/Object") (by decide) ht
  · exact slot_ne (Or.inl (hw _ (List.mem_of_getElem? (i := 243) rfl))) Lf q (t := .int) (by decide) ht
  · exact slot_ne (Or.inl (hw _ (List.mem_of_getElem? (i := 241) rfl))) Lf q (t := .object "java/lang/String") (by decide) ht
theorem d40_0 : decode jdk_78_method_2_code 0 = .ok (.aload_n 0, 1) := by decide +kernel
theorem d40_1 : decode jdk_78_method_2_code 1 = .ok (.invokespecial 1, 3) := by decide +kernel
theorem d40_4 : decode jdk_78_method_2_code 4 = .ok (.aload_n 0, 1) := by decide +kernel
theorem d40_5 : decode jdk_78_method_2_code 5 = .ok (.aload_n 0, 1) := by decide +kernel
theorem d40_6 : decode jdk_78_method_2_code 6 = .ok (.putfield 7, 3) := by decide +kernel
theorem d40_9 : decode jdk_78_method_2_code 9 = .ok (.aload_n 0, 1) := by decide +kernel
theorem d40_10 : decode jdk_78_method_2_code 10 = .ok (.getstatic 13, 3) := by decide +kernel
theorem d40_13 : decode jdk_78_method_2_code 13 = .ok (.putfield 17, 3) := by decide +kernel
theorem d40_16 : decode jdk_78_method_2_code 16 = .ok (.aload_n 0, 1) := by decide +kernel
theorem d40_17 : decode jdk_78_method_2_code 17 = .ok (.getstatic 20, 3) := by decide +kernel
theorem d40_20 : decode jdk_78_method_2_code 20 = .ok (.putfield 24, 3) := by decide +kernel
theorem d40_23 : decode jdk_78_method_2_code 23 = .ok (.aload_n 0, 1) := by decide +kernel
theorem d40_24 : decode jdk_78_method_2_code 24 = .ok (.invokevirtual 27, 3) := by decide +kernel
theorem pd_23 : parseMethodDescriptor "()Ljava/lang/Throwable;" = some ⟨[], some (.object "java/lang/Throwable")⟩ := by decide +kernel
theorem d40_27 : decode jdk_78_method_2_code 27 = .ok (.pop, 1) := by decide +kernel
theorem d40_28 : decode jdk_78_method_2_code 28 = .ok (.aload_n 0, 1) := by decide +kernel
theorem d40_29 : decode jdk_78_method_2_code 29 = .ok (.aload_n 1, 1) := by decide +kernel
theorem d40_30 : decode jdk_78_method_2_code 30 = .ok (.putfield 31, 3) := by decide +kernel
theorem d40_33 : decode jdk_78_method_2_code 33 = .ok (.return_, 1) := by decide +kernel
theorem pn_40 : plainName "java/lang/Throwable" = true := by first | (simp [plainName, overriddenIn]; done) | decide +kernel
theorem ef_40 (m : MethodId) (x0 : Addr) (x1 : Addr) : entryFrame m #[(.ref x0), (.ref x1)] 2 = mkF m 0 #[rv x0, rv x1] [] := by first | (simp [entryFrame, mkF, argsToLocals, Value.category]; done) | rfl
def Q40 (Z : State) (r : Addr) (mg : Addr) (uU : Addr) (uS : Addr) (h0 : Heap) (n0 : Nat) (v : Option Value) (h : Heap) (L : List Loc) : Prop := v = none ∧ Fr n0 L ∧ Kp Z h0 h r
set_option maxRecDepth 65536 in
set_option maxHeartbeats 40000000 in
theorem rm40 (l : Launch) (hl_ : l.stackTraces = true) (Z : State) (a0 : Array Value) (hw : ∀ d ∈ tables_1, d.before a0 Z = true) (ws : List Jvm.Cond) (r : Addr) (mg : Addr) (uU : Addr) (uS : Addr) (h0 : Heap) (n0 : Nat) (Z0 : n0 ≤ h0.size) (O0 : Old Z n0 h0) (SU : Sta Z Z.heap "java/lang/Throwable" "UNASSIGNED_STACK" "[Ljava/lang/StackTraceElement;" (.ref uU)) (SS : Sta Z Z.heap "java/lang/Throwable" "SUPPRESSED_SENTINEL" "Ljava/util/List;" (.ref uS)) (Er0 : Exa Z h0 r "com/example/dispatchbook/dispatchbook/amqp/BrokerClosedException") (Ur0 : Unt h0 r) (Ft_cause : Fld Z h0 r "java/lang/Throwable" "cause" "Ljava/lang/Throwable;" .null) (Ft_stackTrace : Fld Z h0 r "java/lang/Throwable" "stackTrace" "[Ljava/lang/StackTraceElement;" .null) (Ft_suppressedExceptions : Fld Z h0 r "java/lang/Throwable" "suppressedExceptions" "Ljava/util/List;" .null) (Ft_backtrace : Fld Z h0 r "java/lang/Throwable" "backtrace" "Ljava/lang/Object;" .null) (Ft_detailMessage : Fld Z h0 r "java/lang/Throwable" "detailMessage" "Ljava/lang/String;" .null) (g_r : n0 ≤ r) :
    MetFree l (⟨"java/lang/Throwable", "<init>", "(Ljava/lang/String;)V"⟩ : MethodName) (head1 (Jvm.Cond.code (⟨"java/lang/Throwable", "<init>", "(Ljava/lang/String;)V"⟩ : MethodName) jdk_78_method_2_code 2 none :: ws) ({ frames := 3, cells := 1, slots := 2752, locals := 42 } : Room)) (fun a U => a = #[(.ref r), (.ref mg)] ∧ Z.Warmed39 U.vm ∧ U.heap = h0) (fun _ _ bl s _ => s.vm.MethodsKnown ∧ s.vm.FramesKnown bl) (fun _ U o U' => ∃ v L, o = .returned v ∧ Q40 Z r mg uU uS h0 n0 v U'.heap L ∧ FrameEnd U o U' L ({ frames := 3, cells := 1, slots := 2752, locals := 42 } : Room).cells ({ frames := 3, cells := 1, slots := 2752, locals := 42 } : Room).slots) := by
  refine MetFree.of_bodySF (plainFor_of_name pn_40) hisR ?_
  intro p e s m args below meth c s₁ Bd hml0 hP hK
  obtain ⟨rfl, hZ, hh⟩ := hP
  obtain ⟨hTK, hBelow⟩ := hK
  have hx := Bd.exec
  have hby := Bd.bytes
  have hml : c.maxLocals = 2 := hml0
  have hown : s.vm.findClass "java/lang/Throwable" = some m.cls := findClass_of_methodNamed Bd.named
  have hnm := (name_of_methodNamed Bd.named Bd.method).1
  have X0 : Stand p l e ({ frames := 3, cells := 1, slots := 2752, locals := 42 } : Room) s m #[(.ref r), (.ref mg)] below meth c s₁ [] 0 0 := Stand.of_body Bd
  have e0 : s₁.heap = h0 := by rw [← hh, Bd.state]; rfl
  have N0 := Fr.nil n0
  show Ends p.tables e below (fun (s₂ : State) (o : Outcome) => ∃ v L, o = .returned v ∧ (Q40 Z r mg uU uS h0 n0) v s₂.heap L ∧ FrameEnd s o s₂ L ({ frames := 3, cells := 1, slots := 2752, locals := 42 } : Room).cells ({ frames := 3, cells := 1, slots := 2752, locals := 42 } : Room).slots) (s₁.setTop (entryFrame m #[(.ref r), (.ref mg)] 2))
  refine Ends.any fun G hG => ?_
  refine Ends.go (fun t k => castTop (ef_40 m r mg) k) ?_
  show Ends p.tables e below G (s₁.setTop (mkF m 0 #[rv r, rv mg] []))
  refine Ends.go (fun _ => XS.aloadN X0.here hx rfl (hb hby d40_0) rfl rfl) ?_
  show Ends p.tables e below G (s₁.setTop (mkF m 1 #[rv r, rv mg] [(.ref r)]))
  obtain ⟨T1, X1, e1, st1⟩ := initO X0 hx hZ hown (hw _ (List.mem_of_getElem? (i := 209) rfl)) (hw _ (List.mem_of_getElem? (i := 16) rfl)) (hw _ (List.mem_of_getElem? (i := 17) rfl)) e0 (g := (mkF m 1 #[rv r, rv mg] [(.ref r)])) rfl (by rw [hml]; rfl) rfl (hb hby d40_1) (by decide) (W := 0) (by show 2 * 0 + _ ≤ _; exact Nat.le_of_eq rfl) (by decide)
  refine Ends.go (fun _ => st1 _) ?_
  show Ends p.tables e below G (T1.setTop (mkF m 4 #[rv r, rv mg] []))
  refine Ends.go (fun _ => XS.aloadN X1.here hx rfl (hb hby d40_4) rfl rfl) ?_
  show Ends p.tables e below G (T1.setTop (mkF m 5 #[rv r, rv mg] [(.ref r)]))
  refine Ends.go (fun _ => XS.aloadN X1.here hx rfl (hb hby d40_5) rfl rfl) ?_
  show Ends p.tables e below G (T1.setTop (mkF m 6 #[rv r, rv mg] [(.ref r), (.ref r)]))
  obtain ⟨T2, h2, X2, e2, W2, st2⟩ := putF X1 hx hZ hown (host := "") (Or.inl (hw _ (List.mem_of_getElem? (i := 210) rfl))) Via.refl e1 Ft_cause Er0 (Or.inl (hw _ (List.mem_of_getElem? (i := 211) rfl))) (hw _ (List.mem_of_getElem? (i := 35) rfl)) (ty := (.object "java/lang/Throwable")) (by decide) rfl rfl (g := (mkF m 6 #[rv r, rv mg] [(.ref r), (.ref r)])) rfl rfl (hb hby d40_6)
  have f2_E_r := Er0.wr W2
  have f2_F_r_cause := Ft_cause.same W2
  have f2_F_r_stackTrace := Ft_stackTrace.other W2 (Or.inr (slot_ne (Or.inl (hw _ (List.mem_of_getElem? (i := 214) rfl))) (Or.inl (hw _ (List.mem_of_getElem? (i := 211) rfl))) (by decide) (t := (.array (.object "java/lang/StackTraceElement"))) (t' := (.object "java/lang/Throwable")) (by decide) (by decide)))
  have f2_F_r_suppressedExceptions := Ft_suppressedExceptions.other W2 (Or.inr (slot_ne (Or.inl (hw _ (List.mem_of_getElem? (i := 217) rfl))) (Or.inl (hw _ (List.mem_of_getElem? (i := 211) rfl))) (by decide) (t := (.object "java/util/List")) (t' := (.object "java/lang/Throwable")) (by decide) (by decide)))
  have f2_F_r_backtrace := Ft_backtrace.other W2 (Or.inr (slot_ne (Or.inl (hw _ (List.mem_of_getElem? (i := 242) rfl))) (Or.inl (hw _ (List.mem_of_getElem? (i := 211) rfl))) (by decide) (t := (.object "java/lang/Object")) (t' := (.object "java/lang/Throwable")) (by decide) (by decide)))
  have f2_F_r_detailMessage := Ft_detailMessage.other W2 (Or.inr (slot_ne (Or.inl (hw _ (List.mem_of_getElem? (i := 241) rfl))) (Or.inl (hw _ (List.mem_of_getElem? (i := 211) rfl))) (by decide) (t := (.object "java/lang/String")) (t' := (.object "java/lang/Throwable")) (by decide) (by decide)))
  have sz2 := Nat.le_trans Z0 (Nat.le_of_eq W2.size.symm)
  have N2 := Fr.snoc X2 N0 g_r
  have f2_U_r := Unt.wr W2 Ur0
  have O2 := Old.wr O0 W2 g_r
  refine Ends.go (fun _ => st2 _) ?_
  show Ends p.tables e below G (T2.setTop (mkF m 9 #[rv r, rv mg] []))
  refine Ends.go (fun _ => XS.aloadN X2.here hx rfl (hb hby d40_9) rfl rfl) ?_
  show Ends p.tables e below G (T2.setTop (mkF m 10 #[rv r, rv mg] [(.ref r)]))
  obtain ⟨T3, X3, e3, st3⟩ := getS2 X2 hx hZ hown (host := "") (Or.inl (hw _ (List.mem_of_getElem? (i := 212) rfl))) Via.refl e2 (Sta.ext O2.2 SU) (g := (mkF m 10 #[rv r, rv mg] [(.ref r)])) rfl (hb hby d40_10)
  refine Ends.go (fun _ => st3 _) ?_
  show Ends p.tables e below G (T3.setTop (mkF m 13 #[rv r, rv mg] [(.ref uU), (.ref r)]))
  obtain ⟨T4, h4, X4, e4, W4, st4⟩ := putF X3 hx hZ hown (host := "") (Or.inl (hw _ (List.mem_of_getElem? (i := 213) rfl))) Via.refl e3 f2_F_r_stackTrace f2_E_r (Or.inl (hw _ (List.mem_of_getElem? (i := 214) rfl))) (hw _ (List.mem_of_getElem? (i := 35) rfl)) (ty := (.array (.object "java/lang/StackTraceElement"))) (by decide) rfl rfl (g := (mkF m 13 #[rv r, rv mg] [(.ref uU), (.ref r)])) rfl rfl (hb hby d40_13)
  have f4_E_r := f2_E_r.wr W4
  have f4_F_r_cause := f2_F_r_cause.other W4 (Or.inr (slot_ne (Or.inl (hw _ (List.mem_of_getElem? (i := 211) rfl))) (Or.inl (hw _ (List.mem_of_getElem? (i := 214) rfl))) (by decide) (t := (.object "java/lang/Throwable")) (t' := (.array (.object "java/lang/StackTraceElement"))) (by decide) (by decide)))
  have f4_F_r_stackTrace := f2_F_r_stackTrace.same W4
  have f4_F_r_suppressedExceptions := f2_F_r_suppressedExceptions.other W4 (Or.inr (slot_ne (Or.inl (hw _ (List.mem_of_getElem? (i := 217) rfl))) (Or.inl (hw _ (List.mem_of_getElem? (i := 214) rfl))) (by decide) (t := (.object "java/util/List")) (t' := (.array (.object "java/lang/StackTraceElement"))) (by decide) (by decide)))
  have f4_F_r_backtrace := f2_F_r_backtrace.other W4 (Or.inr (slot_ne (Or.inl (hw _ (List.mem_of_getElem? (i := 242) rfl))) (Or.inl (hw _ (List.mem_of_getElem? (i := 214) rfl))) (by decide) (t := (.object "java/lang/Object")) (t' := (.array (.object "java/lang/StackTraceElement"))) (by decide) (by decide)))
  have f4_F_r_detailMessage := f2_F_r_detailMessage.other W4 (Or.inr (slot_ne (Or.inl (hw _ (List.mem_of_getElem? (i := 241) rfl))) (Or.inl (hw _ (List.mem_of_getElem? (i := 214) rfl))) (by decide) (t := (.object "java/lang/String")) (t' := (.array (.object "java/lang/StackTraceElement"))) (by decide) (by decide)))
  have sz4 := Nat.le_trans sz2 (Nat.le_of_eq W4.size.symm)
  have N4 := Fr.snoc X4 N2 g_r
  have f4_U_r := Unt.wr W4 f2_U_r
  have O4 := Old.wr O2 W4 g_r
  refine Ends.go (fun _ => st4 _) ?_
  show Ends p.tables e below G (T4.setTop (mkF m 16 #[rv r, rv mg] []))
  refine Ends.go (fun _ => XS.aloadN X4.here hx rfl (hb hby d40_16) rfl rfl) ?_
  show Ends p.tables e below G (T4.setTop (mkF m 17 #[rv r, rv mg] [(.ref r)]))
  obtain ⟨T5, X5, e5, st5⟩ := getS2 X4 hx hZ hown (host := "") (Or.inl (hw _ (List.mem_of_getElem? (i := 215) rfl))) Via.refl e4 (Sta.ext O4.2 SS) (g := (mkF m 17 #[rv r, rv mg] [(.ref r)])) rfl (hb hby d40_17)
  refine Ends.go (fun _ => st5 _) ?_
  show Ends p.tables e below G (T5.setTop (mkF m 20 #[rv r, rv mg] [(.ref uS), (.ref r)]))
  obtain ⟨T6, h6, X6, e6, W6, st6⟩ := putF X5 hx hZ hown (host := "") (Or.inl (hw _ (List.mem_of_getElem? (i := 216) rfl))) Via.refl e5 f4_F_r_suppressedExceptions f4_E_r (Or.inl (hw _ (List.mem_of_getElem? (i := 217) rfl))) (hw _ (List.mem_of_getElem? (i := 35) rfl)) (ty := (.object "java/util/List")) (by decide) rfl rfl (g := (mkF m 20 #[rv r, rv mg] [(.ref uS), (.ref r)])) rfl rfl (hb hby d40_20)
  have f6_E_r := f4_E_r.wr W6
  have f6_F_r_cause := f4_F_r_cause.other W6 (Or.inr (slot_ne (Or.inl (hw _ (List.mem_of_getElem? (i := 211) rfl))) (Or.inl (hw _ (List.mem_of_getElem? (i := 217) rfl))) (by decide) (t := (.object "java/lang/Throwable")) (t' := (.object "java/util/List")) (by decide) (by decide)))
  have f6_F_r_stackTrace := f4_F_r_stackTrace.other W6 (Or.inr (slot_ne (Or.inl (hw _ (List.mem_of_getElem? (i := 214) rfl))) (Or.inl (hw _ (List.mem_of_getElem? (i := 217) rfl))) (by decide) (t := (.array (.object "java/lang/StackTraceElement"))) (t' := (.object "java/util/List")) (by decide) (by decide)))
  have f6_F_r_suppressedExceptions := f4_F_r_suppressedExceptions.same W6
  have f6_F_r_backtrace := f4_F_r_backtrace.other W6 (Or.inr (slot_ne (Or.inl (hw _ (List.mem_of_getElem? (i := 242) rfl))) (Or.inl (hw _ (List.mem_of_getElem? (i := 217) rfl))) (by decide) (t := (.object "java/lang/Object")) (t' := (.object "java/util/List")) (by decide) (by decide)))
  have f6_F_r_detailMessage := f4_F_r_detailMessage.other W6 (Or.inr (slot_ne (Or.inl (hw _ (List.mem_of_getElem? (i := 241) rfl))) (Or.inl (hw _ (List.mem_of_getElem? (i := 217) rfl))) (by decide) (t := (.object "java/lang/String")) (t' := (.object "java/util/List")) (by decide) (by decide)))
  have sz6 := Nat.le_trans sz4 (Nat.le_of_eq W6.size.symm)
  have N6 := Fr.snoc X6 N4 g_r
  have f6_U_r := Unt.wr W6 f4_U_r
  have O6 := Old.wr O4 W6 g_r
  refine Ends.go (fun _ => st6 _) ?_
  show Ends p.tables e below G (T6.setTop (mkF m 23 #[rv r, rv mg] []))
  refine Ends.go (fun _ => XS.aloadN X6.here hx rfl (hb hby d40_23) rfl rfl) ?_
  show Ends p.tables e below G (T6.setTop (mkF m 24 #[rv r, rv mg] [(.ref r)]))
  have al_ := hZ.alike
  have hT0 : ThS Z s.heap := by rw [hh]; exact ThS.ext O0.2 ThS.start
  have pf_ : e.platform.stackTraces = true := by rw [X0.admits.platform]; exact hl_
  have ow_ : e.platform.frameOwnsMonitors = true := by rw [X0.admits.platform]
  have fz_ : e.platform.finalization = false := by rw [X0.admits.platform]
  have hpl : e.platform.magicAccessors = ({} : Platform).magicAccessors := by rw [X0.admits.platform]
  obtain ⟨TT, LL, fT, fF, f0, fS, fU, tS⟩ := own_thr (args := #[(.ref r), (.ref mg)]) (rc := "com/example/dispatchbook/dispatchbook/amqp/BrokerClosedException") ow_ fz_ hpl (fun i d hi hn => mvX hT0 hZ (own_at i d hi hn).2 (hw d (own_at i d hi hn).1)) (mvT hZ (hw _ (List.mem_of_getElem? (i := 214) rfl))) (mvT hZ (hw _ (List.mem_of_getElem? (i := 217) rfl)))
  obtain ⟨cR, hcR, vmR, moR⟩ := id f6_U_r
  obtain ⟨cR', kR, x1, x2, x3, x4, x5⟩ := id f6_E_r
  obtain rfl : cR = cR' := Option.some.inj (hcR.symm.trans x1)
  have y2 : s.vm.findClass "com/example/dispatchbook/dispatchbook/amqp/BrokerClosedException" = some cR.cls := by rw [al_.findClass]; exact x2
  obtain ⟨kS, y3, y4⟩ := al_.2.2 _ _ x3
  obtain ⟨cI, kI, z1, z2, z3, -⟩ := Cond.instantiable_spec (hw _ (List.mem_of_getElem? (i := 35) rfl))
  obtain rfl : cR.cls = cI := Option.some.inj (x2.symm.trans z1)
  obtain rfl : kR = kI := Option.some.inj (x3.symm.trans z2)
  have or_ : kS.kind = .ordinary := by rw [y4]; exact z3
  have sz_ : cR.slots.size = kS.instanceTypes.size := by rw [y4]; exact x5 z3
  obtain ⟨cu, iu, ku, fu, su, cellS, u1, u2, u3, u4, u5, u6, u7⟩ := Sta.ext O6.2 SU
  obtain ⟨ku', v1, v2⟩ := State.fieldFound?_setVm (s := Z) al_ u1
  have v3 := (show s.fieldFound? "java/lang/Throwable" "UNASSIGNED_STACK" "[Ljava/lang/StackTraceElement;" = _ from v1).symm.trans fU
  simp only [Option.some.injEq, Prod.mk.injEq] at v3
  obtain ⟨-, v4, -, v5⟩ := v3
  have v6 : TT.aS = su := Option.some.inj (LL.statics.symm.trans (by rw [← v4, v2]; exact u4))
  have neS : TT.aS ≠ r := fun q => by
    rw [v6] at q; rw [q] at u5
    cases hcR.symm.trans u5
    rw [vmR] at u6; cases u6
  have knS : cellS.vm ≠ .unknown := fun q => by rw [q] at u6; cases u6
  have vU : cellS.slots[TT.fUnassigned.slot]? = some (.ref uU) := by rw [← v5]; exact u7
  have sel0 : selectMethod e.platform s.vm cR.cls TT.fill0 = .method TT.fill0 := by
    obtain ⟨c2, r2, m2, q1, q2, q3, q4, -⟩ := Cond.selects_spec (args := #[(.ref r), (.ref mg)]) (first := s) (o := none) (idx := []) (mvT hZ (hw _ (List.mem_of_getElem? (i := 240) rfl)))
    rw [Option.some.inj (q1.symm.trans y2), Option.some.inj (q2.symm.trans (State.methodFound?_of_named f0 (by decide))), Option.some.inj (q3.symm.trans f0)] at q4
    rw [Launch.admits_selectMethod X0.admits]; exact q4
  obtain ⟨c198, i198, fB, b1, b2, b3, b4, -, b5, b6, b7⟩ := Cond.ownField (args := #[(.ref r), (.ref mg)]) (first := s) (o := none) (idx := []) (t := .object "java/lang/Object") fT LL.cls (by decide +kernel) (mvT hZ (hw _ (List.mem_of_getElem? (i := 236) rfl))) (mvT hZ (hw _ (List.mem_of_getElem? (i := 242) rfl))) e.platform hpl
  have wD : (Jvm.Cond.lays "com/example/dispatchbook/dispatchbook/amqp/BrokerClosedException" "java/lang/Throwable" "depth" "I").before #[(.ref r), (.ref mg)] s = true := mvT hZ (hw _ (List.mem_of_getElem? (i := 243) rfl))
  obtain ⟨_, _, cD, kD, iD, fD, -, -, d3, d4, -⟩ := Cond.lays_spec wD
  have d5 : cD = TT.cT := Option.some.inj ((Cond.lays_declared wD d3).symm.trans fT)
  obtain ⟨d6, d7⟩ := State.fieldFound?_spec d3
  have d8 : kD = TT.kT := by rw [d5] at d6; exact Option.some.inj (d6.symm.trans LL.cls)
  obtain ⟨d9, d10⟩ := State.fieldFound?_type d3 (t := .int) (by decide +kernel)
  have fb_ := Cond.soleField_find (args := #[(.ref r), (.ref mg)]) (first := s) (o := none) (idx := []) fT LL.cls (mvT hZ (hw _ (List.mem_of_getElem? (i := 223) rfl))) b3 b5 b4
  have fd_ := Cond.soleField_find (args := #[(.ref r), (.ref mg)]) (first := s) (o := none) (idx := []) fT LL.cls (mvT hZ (hw _ (List.mem_of_getElem? (i := 224) rfl))) (by rw [← d8]; exact d7) d9 d4
  have wO : (Jvm.Cond.arrayOver (.object "java/lang/Object")).before #[(.ref r), (.ref mg)] s = true := Cond.arrayOver_alike hZ.alike (hw _ (List.mem_of_getElem? (i := 222) rfl))
  obtain ⟨comp, cO, kO, -, -, o1, o2, o3⟩ := Cond.arrayOver_spec wO
  have tkS := own_takes (v := .ref uU) y3 or_ vmR sz_ (Cond.laysAt (args := #[(.ref r), (.ref mg)]) (first := s) (o := none) (idx := []) y2 y3 fS (mvT hZ (hw _ (List.mem_of_getElem? (i := 214) rfl)))).1 (by rw [tS]; rfl)
  have tkB : ∀ z : Addr, Jvm.Takes s cR fB (.ref z) := fun z => own_takes y3 or_ vmR sz_ (Cond.laysAt (args := #[(.ref r), (.ref mg)]) (first := s) (o := none) (idx := []) y2 y3 b7 (mvT hZ (hw _ (List.mem_of_getElem? (i := 242) rfl)))).1 (by rw [b6]; rfl)
  have tkD : ∀ z : Int32, Jvm.Takes s cR fD (.int z) := fun z => own_takes y3 or_ vmR sz_ (Cond.laysAt y2 y3 d3 wD).1 (by rw [d10]; rfl)
  have slB := own_slotv f6_F_r_backtrace al_ hcR b7
  have slS := own_slotv f6_F_r_stackTrace al_ hcR fS
  obtain ⟨cq7, kq7, q7a, q7b, q7c⟩ := isOf hZ e6 f6_E_r
  obtain ⟨v7, vm7, ⟨T7, L7, k7, n7⟩, -, X7, ⟨hv7, C7, m7, hm7, hD7, c17, c27, c37, -, hl7, hc7, hs7⟩, st7⟩ := X6.virtualBack hx (y := (⟨"java/lang/Throwable", "fillInStackTrace", "()Ljava/lang/Throwable;"⟩ : MethodName)) (z := (⟨"java/lang/Throwable", "fillInStackTrace", "()Ljava/lang/Throwable;"⟩ : MethodName)) hown (mvT hZ (hw _ (List.mem_of_getElem? (i := 218) rfl))) (mvT hZ (hw _ (List.mem_of_getElem? (i := 219) rfl))) (notFace_of_selects (args := #[]) (mvT hZ (hw _ (List.mem_of_getElem? (i := 221) rfl)))) (mvT hZ (hw _ (List.mem_of_getElem? (i := 221) rfl))) (mvT hZ (hw _ (List.mem_of_getElem? (i := 220) rfl))) (by decide) (Jvm.Free.Exc.fillPaysAny (l := l) (W := 0) hx pf_ TT LL fF (u0 := ⟨.ref uU, rfl⟩) (self := r) (cell := cR) (cellS := cellS) (fun _ => by rw [vmR]; simp) (by rw [vmR]; simp) (by rw [moR]) (by rw [moR]) slS sel0 neS knS vU tkS ⟨{ ci198 := c198, i198 := i198, fBack := fB }, ⟨b1, b2, b3, b4⟩, slB⟩ hTK hBelow fT o3 o1 o2 fb_ fd_ tkB tkD (by decide) (by decide)) q7a q7c (g := (mkF m 24 #[rv r, rv mg] [(.ref r)])) rfl (by rw [hml]; rfl) (Steps.refl _) (argsL := []) (rest := []) (lenOf pd_23 rfl) rfl (by show 2 * 0 + _ ≤ _; exact Nat.le_of_eq rfl) (hb hby d40_24) (fun _ _ => ⟨rfl, (by decide : 0 + 1 ≤ _), (by decide : 0 + 2752 ≤ _), (show T6.heap[r]? = some cR from e6 ▸ hcR), (show T6.heap[TT.aS]? = some cellS from v6.symm ▸ e6 ▸ u5)⟩)
  dsimp only [Pt.U, Pt.locs, Pt.cells, Pt.slots] at X7 st7 hv7 hl7 hc7 hs7 hD7
  subst hv7 hl7 hc7 hs7
  have X7m := X7.more (Nat.le_refl _) (Nat.add_le_add_left hm7 _)
  have Kp7 : Kp Z h0 T7.heap r := by
    refine kp_of hZ hh ?_ (own_kept X7)
    intro y hy
    simp only [List.mem_append, List.mem_cons, List.not_mem_nil, or_false, false_or] at hy
    rcases hy with ((rfl | rfl) | rfl) | rfl | rfl | rfl
    · exact own_six Ft_cause (by decide +kernel) al_
    · exact own_six Ft_stackTrace (by decide +kernel) al_
    · exact own_six Ft_suppressedExceptions (by decide +kernel) al_
    · exact ⟨("backtrace", "Ljava/lang/Object;"), fB, by decide +kernel, ⟨_, _, _, b7⟩, rfl⟩
    · exact ⟨("depth", "I"), fD, by decide +kernel, ⟨_, _, _, d3⟩, rfl⟩
    · exact ⟨("stackTrace", "[Ljava/lang/StackTraceElement;"), TT.fStack, by decide +kernel, ⟨_, _, _, fS⟩, rfl⟩
  have Kk7 := keep_of_kp Kp7
  have N7 : Fr n0 _ := Fr.app N6 (fun y hy => by
    simp only [List.mem_cons, List.not_mem_nil, or_false] at hy
    rcases hy with rfl | rfl | rfl <;> exact g_r : Fr n0 [⟨r, fB.slot⟩, ⟨r, fD.slot⟩, ⟨r, TT.fStack.slot⟩])
  have Ex7 : Exa Z T7.heap r "com/example/dispatchbook/dispatchbook/amqp/BrokerClosedException" := ⟨C7, kR, hD7, by rw [c17]; exact x2, by rw [c17]; exact x3, by rw [c27, vmR]; rfl, fun ho => by rw [c37]; exact x5 ho⟩
  obtain ⟨vd_, Fd7⟩ := fld_laid (O := "java/lang/Throwable") (n := "detailMessage") (d := "Ljava/lang/String;") Ex7 ⟨C7, hD7, by rw [c27, vmR]; simp⟩ (hw _ (List.mem_of_getElem? (i := 35) rfl)) (Or.inl (hw _ (List.mem_of_getElem? (i := 241) rfl)))
  have O7 := Old.keep O0 Kk7 (allS g_r all0)
  have sz7 := Nat.le_trans Z0 Kk7.1
  refine Ends.go (fun _ => st7.trans) ?_
  show Ends p.tables e below G (T7.setTop (mkF m 27 #[rv r, rv mg] [(.ref r)]))
  refine Ends.go (fun _ => XS.pop X7m.here hx rfl (hb hby d40_27) rfl rfl) ?_
  show Ends p.tables e below G (T7.setTop (mkF m 28 #[rv r, rv mg] []))
  refine Ends.go (fun _ => XS.aloadN X7m.here hx rfl (hb hby d40_28) rfl rfl) ?_
  show Ends p.tables e below G (T7.setTop (mkF m 29 #[rv r, rv mg] [(.ref r)]))
  refine Ends.go (fun _ => XS.aloadN X7m.here hx rfl (hb hby d40_29) rfl rfl) ?_
  show Ends p.tables e below G (T7.setTop (mkF m 30 #[rv r, rv mg] [(.ref mg), (.ref r)]))
  obtain ⟨T8, h8, X8, e8, W8, st8⟩ := putF X7m hx hZ hown (host := "") (Or.inl (hw _ (List.mem_of_getElem? (i := 245) rfl))) Via.refl rfl Fd7 Ex7 (Or.inl (hw _ (List.mem_of_getElem? (i := 241) rfl))) (hw _ (List.mem_of_getElem? (i := 35) rfl)) (ty := (.object "java/lang/String")) (by decide) rfl rfl (g := (mkF m 30 #[rv r, rv mg] [(.ref mg), (.ref r)])) rfl rfl (hb hby d40_30)
  have f8_E_r := Ex7.wr W8
  have f8_F_r_detailMessage := Fd7.same W8
  have sz8 := Nat.le_trans sz7 (Nat.le_of_eq W8.size.symm)
  have N8 := Fr.snoc X8 N7 g_r
  have O8 := Old.wr O7 W8 g_r
  refine Ends.go (fun _ => st8 _) ?_
  show Ends p.tables e below G (T8.setTop (mkF m 33 #[rv r, rv mg] []))
  refine own_finN X8 hx Bd.returns Bd.notSynchronized (hb hby d40_33) (Q := (Q40 Z r mg uU uS h0 n0)) hG (by decide) (by decide) ?_
  refine ⟨rfl, N8, kp_of hZ hh ?_ (own_kept X8)⟩
  intro y hy
  simp only [List.mem_append, List.mem_cons, List.not_mem_nil, or_false, false_or] at hy
  rcases hy with (((rfl | rfl) | rfl) | rfl | rfl | rfl) | rfl
  · exact own_six Ft_cause (by decide +kernel) al_
  · exact own_six Ft_stackTrace (by decide +kernel) al_
  · exact own_six Ft_suppressedExceptions (by decide +kernel) al_
  · exact ⟨("backtrace", "Ljava/lang/Object;"), fB, by decide +kernel, ⟨_, _, _, b7⟩, rfl⟩
  · exact ⟨("depth", "I"), fD, by decide +kernel, ⟨_, _, _, d3⟩, rfl⟩
  · exact ⟨("stackTrace", "[Ljava/lang/StackTraceElement;"), TT.fStack, by decide +kernel, ⟨_, _, _, fS⟩, rfl⟩
  · exact own_six Ft_detailMessage (by decide +kernel) al_
theorem d39_0 : decode jdk_59_method_2_code 0 = .ok (.aload_n 0, 1) := by decide +kernel
theorem d39_1 : decode jdk_59_method_2_code 1 = .ok (.aload_n 1, 1) := by decide +kernel
theorem d39_2 : decode jdk_59_method_2_code 2 = .ok (.invokespecial 7, 3) := by decide +kernel
theorem d39_5 : decode jdk_59_method_2_code 5 = .ok (.return_, 1) := by decide +kernel
theorem pn_39 : plainName "java/lang/Exception" = true := by first | (simp [plainName, overriddenIn]; done) | decide +kernel
theorem ef_39 (m : MethodId) (x0 : Addr) (x1 : Addr) : entryFrame m #[(.ref x0), (.ref x1)] 2 = mkF m 0 #[rv x0, rv x1] [] := by first | (simp [entryFrame, mkF, argsToLocals, Value.category]; done) | rfl
def Q39 (Z : State) (r : Addr) (mg : Addr) (uU : Addr) (uS : Addr) (h0 : Heap) (n0 : Nat) (v : Option Value) (h : Heap) (L : List Loc) : Prop := v = none ∧ Fr n0 L ∧ Kp Z h0 h r
set_option maxRecDepth 65536 in
set_option maxHeartbeats 40000000 in
theorem rm39 (l : Launch) (hl_ : l.stackTraces = true) (Z : State) (a0 : Array Value) (hw : ∀ d ∈ tables_1, d.before a0 Z = true) (ws : List Jvm.Cond) (r : Addr) (mg : Addr) (uU : Addr) (uS : Addr) (h0 : Heap) (n0 : Nat) (Z0 : n0 ≤ h0.size) (O0 : Old Z n0 h0) (SU : Sta Z Z.heap "java/lang/Throwable" "UNASSIGNED_STACK" "[Ljava/lang/StackTraceElement;" (.ref uU)) (SS : Sta Z Z.heap "java/lang/Throwable" "SUPPRESSED_SENTINEL" "Ljava/util/List;" (.ref uS)) (Er0 : Exa Z h0 r "com/example/dispatchbook/dispatchbook/amqp/BrokerClosedException") (Ur0 : Unt h0 r) (Ft_cause : Fld Z h0 r "java/lang/Throwable" "cause" "Ljava/lang/Throwable;" .null) (Ft_stackTrace : Fld Z h0 r "java/lang/Throwable" "stackTrace" "[Ljava/lang/StackTraceElement;" .null) (Ft_suppressedExceptions : Fld Z h0 r "java/lang/Throwable" "suppressedExceptions" "Ljava/util/List;" .null) (Ft_backtrace : Fld Z h0 r "java/lang/Throwable" "backtrace" "Ljava/lang/Object;" .null) (Ft_detailMessage : Fld Z h0 r "java/lang/Throwable" "detailMessage" "Ljava/lang/String;" .null) (g_r : n0 ≤ r) :
    MetFree l (⟨"java/lang/Exception", "<init>", "(Ljava/lang/String;)V"⟩ : MethodName) (head1 (Jvm.Cond.code (⟨"java/lang/Exception", "<init>", "(Ljava/lang/String;)V"⟩ : MethodName) jdk_59_method_2_code 2 none :: ws) ({ frames := 4, cells := 1, slots := 2752, locals := 56 } : Room)) (fun a U => a = #[(.ref r), (.ref mg)] ∧ Z.Warmed39 U.vm ∧ U.heap = h0) (fun _ _ bl s _ => s.vm.MethodsKnown ∧ s.vm.FramesKnown bl) (fun _ U o U' => ∃ v L, o = .returned v ∧ Q39 Z r mg uU uS h0 n0 v U'.heap L ∧ FrameEnd U o U' L ({ frames := 4, cells := 1, slots := 2752, locals := 56 } : Room).cells ({ frames := 4, cells := 1, slots := 2752, locals := 56 } : Room).slots) := by
  refine MetFree.of_bodySF (plainFor_of_name pn_39) hisR ?_
  intro p e s m args below meth c s₁ Bd hml0 hP hK
  obtain ⟨rfl, hZ, hh⟩ := hP
  obtain ⟨hTK, hBelow⟩ := hK
  have hx := Bd.exec
  have hby := Bd.bytes
  have hml : c.maxLocals = 2 := hml0
  have hown : s.vm.findClass "java/lang/Exception" = some m.cls := findClass_of_methodNamed Bd.named
  have hnm := (name_of_methodNamed Bd.named Bd.method).1
  have X0 : Stand p l e ({ frames := 4, cells := 1, slots := 2752, locals := 56 } : Room) s m #[(.ref r), (.ref mg)] below meth c s₁ [] 0 0 := Stand.of_body Bd
  have e0 : s₁.heap = h0 := by rw [← hh, Bd.state]; rfl
  have N0 := Fr.nil n0
  show Ends p.tables e below (fun (s₂ : State) (o : Outcome) => ∃ v L, o = .returned v ∧ (Q39 Z r mg uU uS h0 n0) v s₂.heap L ∧ FrameEnd s o s₂ L ({ frames := 4, cells := 1, slots := 2752, locals := 56 } : Room).cells ({ frames := 4, cells := 1, slots := 2752, locals := 56 } : Room).slots) (s₁.setTop (entryFrame m #[(.ref r), (.ref mg)] 2))
  refine Ends.any fun G hG => ?_
  refine Ends.go (fun t k => castTop (ef_39 m r mg) k) ?_
  show Ends p.tables e below G (s₁.setTop (mkF m 0 #[rv r, rv mg] []))
  refine Ends.go (fun _ => XS.aloadN X0.here hx rfl (hb hby d39_0) rfl rfl) ?_
  show Ends p.tables e below G (s₁.setTop (mkF m 1 #[rv r, rv mg] [(.ref r)]))
  refine Ends.go (fun _ => XS.aloadN X0.here hx rfl (hb hby d39_1) rfl rfl) ?_
  show Ends p.tables e below G (s₁.setTop (mkF m 2 #[rv r, rv mg] [(.ref mg), (.ref r)]))
  obtain ⟨_, _, ⟨T1, L1, k1, n1⟩, -, X1, ⟨Lc1, hQ1, l1, y1, z1⟩, st1⟩ := X0.specialBack hx (y := (⟨"java/lang/Throwable", "<init>", "(Ljava/lang/String;)V"⟩ : MethodName)) rfl hown (mvT hZ (hw _ (List.mem_of_getElem? (i := 203) rfl))) (mvT hZ (hw _ (List.mem_of_getElem? (i := 204) rfl))) (mvT hZ (hw _ (List.mem_of_getElem? (i := 208) rfl))) (by decide) (backOfKL (W := 0) (rm40 l hl_ Z a0 hw [] r mg uU uS h0 n0 Z0 O0 SU SS Er0 Ur0 Ft_cause Ft_stackTrace Ft_suppressedExceptions Ft_backtrace Ft_detailMessage g_r) hZ (hw _ (List.mem_of_getElem? (i := 208) rfl)) (hw _ (List.mem_of_getElem? (i := 207) rfl)) (by decide) (by decide) hTK hBelow) (g := (mkF m 2 #[rv r, rv mg] [(.ref mg), (.ref r)])) rfl (by rw [hml]; rfl) (Steps.refl _) (a := r) (argsL := [(.ref mg)]) (rest := []) (lenOf pd_8 rfl) rfl (by show 2 * 0 + _ ≤ _; exact Nat.le_of_eq rfl) (hb hby d39_2) (fun _ _ => ⟨rfl, e0, (by decide : 0 + 1 ≤ _), (by decide : 0 + 2752 ≤ _)⟩)
  dsimp only [Pt.U, Pt.locs, Pt.cells, Pt.slots] at X1 l1 y1 z1 st1 hQ1
  subst l1 y1 z1
  obtain ⟨rfl, N1q, Kq1⟩ := hQ1
  have N1 := Fr.app N0 N1q
  refine Ends.go (fun _ => st1.trans) ?_
  show Ends p.tables e below G (T1.setTop (mkF m 5 #[rv r, rv mg] []))
  refine own_finN X1 hx Bd.returns Bd.notSynchronized (hb hby d39_5) (Q := (Q39 Z r mg uU uS h0 n0)) hG (by decide) (by decide) ?_
  show (Q39 Z r mg uU uS h0 n0) _ T1.heap _
  exact ⟨rfl, N1, Kq1⟩
theorem d38_0 : decode jdk_131_method_2_code 0 = .ok (.aload_n 0, 1) := by decide +kernel
theorem d38_1 : decode jdk_131_method_2_code 1 = .ok (.aload_n 1, 1) := by decide +kernel
theorem d38_2 : decode jdk_131_method_2_code 2 = .ok (.invokespecial 7, 3) := by decide +kernel
theorem d38_5 : decode jdk_131_method_2_code 5 = .ok (.return_, 1) := by decide +kernel
theorem pn_38 : plainName "java/io/IOException" = true := by first | (simp [plainName, overriddenIn]; done) | decide +kernel
theorem ef_38 (m : MethodId) (x0 : Addr) (x1 : Addr) : entryFrame m #[(.ref x0), (.ref x1)] 2 = mkF m 0 #[rv x0, rv x1] [] := by first | (simp [entryFrame, mkF, argsToLocals, Value.category]; done) | rfl
def Q38 (Z : State) (r : Addr) (mg : Addr) (uU : Addr) (uS : Addr) (h0 : Heap) (n0 : Nat) (v : Option Value) (h : Heap) (L : List Loc) : Prop := v = none ∧ Fr n0 L ∧ Kp Z h0 h r
set_option maxRecDepth 65536 in
set_option maxHeartbeats 40000000 in
theorem rm38 (l : Launch) (hl_ : l.stackTraces = true) (Z : State) (a0 : Array Value) (hw : ∀ d ∈ tables_1, d.before a0 Z = true) (ws : List Jvm.Cond) (r : Addr) (mg : Addr) (uU : Addr) (uS : Addr) (h0 : Heap) (n0 : Nat) (Z0 : n0 ≤ h0.size) (O0 : Old Z n0 h0) (SU : Sta Z Z.heap "java/lang/Throwable" "UNASSIGNED_STACK" "[Ljava/lang/StackTraceElement;" (.ref uU)) (SS : Sta Z Z.heap "java/lang/Throwable" "SUPPRESSED_SENTINEL" "Ljava/util/List;" (.ref uS)) (Er0 : Exa Z h0 r "com/example/dispatchbook/dispatchbook/amqp/BrokerClosedException") (Ur0 : Unt h0 r) (Ft_cause : Fld Z h0 r "java/lang/Throwable" "cause" "Ljava/lang/Throwable;" .null) (Ft_stackTrace : Fld Z h0 r "java/lang/Throwable" "stackTrace" "[Ljava/lang/StackTraceElement;" .null) (Ft_suppressedExceptions : Fld Z h0 r "java/lang/Throwable" "suppressedExceptions" "Ljava/util/List;" .null) (Ft_backtrace : Fld Z h0 r "java/lang/Throwable" "backtrace" "Ljava/lang/Object;" .null) (Ft_detailMessage : Fld Z h0 r "java/lang/Throwable" "detailMessage" "Ljava/lang/String;" .null) (g_r : n0 ≤ r) :
    MetFree l (⟨"java/io/IOException", "<init>", "(Ljava/lang/String;)V"⟩ : MethodName) (head1 (Jvm.Cond.code (⟨"java/io/IOException", "<init>", "(Ljava/lang/String;)V"⟩ : MethodName) jdk_131_method_2_code 2 none :: ws) ({ frames := 5, cells := 1, slots := 2752, locals := 70 } : Room)) (fun a U => a = #[(.ref r), (.ref mg)] ∧ Z.Warmed39 U.vm ∧ U.heap = h0) (fun _ _ bl s _ => s.vm.MethodsKnown ∧ s.vm.FramesKnown bl) (fun _ U o U' => ∃ v L, o = .returned v ∧ Q38 Z r mg uU uS h0 n0 v U'.heap L ∧ FrameEnd U o U' L ({ frames := 5, cells := 1, slots := 2752, locals := 70 } : Room).cells ({ frames := 5, cells := 1, slots := 2752, locals := 70 } : Room).slots) := by
  refine MetFree.of_bodySF (plainFor_of_name pn_38) hisR ?_
  intro p e s m args below meth c s₁ Bd hml0 hP hK
  obtain ⟨rfl, hZ, hh⟩ := hP
  obtain ⟨hTK, hBelow⟩ := hK
  have hx := Bd.exec
  have hby := Bd.bytes
  have hml : c.maxLocals = 2 := hml0
  have hown : s.vm.findClass "java/io/IOException" = some m.cls := findClass_of_methodNamed Bd.named
  have hnm := (name_of_methodNamed Bd.named Bd.method).1
  have X0 : Stand p l e ({ frames := 5, cells := 1, slots := 2752, locals := 70 } : Room) s m #[(.ref r), (.ref mg)] below meth c s₁ [] 0 0 := Stand.of_body Bd
  have e0 : s₁.heap = h0 := by rw [← hh, Bd.state]; rfl
  have N0 := Fr.nil n0
  show Ends p.tables e below (fun (s₂ : State) (o : Outcome) => ∃ v L, o = .returned v ∧ (Q38 Z r mg uU uS h0 n0) v s₂.heap L ∧ FrameEnd s o s₂ L ({ frames := 5, cells := 1, slots := 2752, locals := 70 } : Room).cells ({ frames := 5, cells := 1, slots := 2752, locals := 70 } : Room).slots) (s₁.setTop (entryFrame m #[(.ref r), (.ref mg)] 2))
  refine Ends.any fun G hG => ?_
  refine Ends.go (fun t k => castTop (ef_38 m r mg) k) ?_
  show Ends p.tables e below G (s₁.setTop (mkF m 0 #[rv r, rv mg] []))
  refine Ends.go (fun _ => XS.aloadN X0.here hx rfl (hb hby d38_0) rfl rfl) ?_
  show Ends p.tables e below G (s₁.setTop (mkF m 1 #[rv r, rv mg] [(.ref r)]))
  refine Ends.go (fun _ => XS.aloadN X0.here hx rfl (hb hby d38_1) rfl rfl) ?_
  show Ends p.tables e below G (s₁.setTop (mkF m 2 #[rv r, rv mg] [(.ref mg), (.ref r)]))
  obtain ⟨_, _, ⟨T1, L1, k1, n1⟩, -, X1, ⟨Lc1, hQ1, l1, y1, z1⟩, st1⟩ := X0.specialBack hx (y := (⟨"java/lang/Exception", "<init>", "(Ljava/lang/String;)V"⟩ : MethodName)) rfl hown (mvT hZ (hw _ (List.mem_of_getElem? (i := 197) rfl))) (mvT hZ (hw _ (List.mem_of_getElem? (i := 198) rfl))) (mvT hZ (hw _ (List.mem_of_getElem? (i := 202) rfl))) (by decide) (backOfKL (W := 0) (rm39 l hl_ Z a0 hw [] r mg uU uS h0 n0 Z0 O0 SU SS Er0 Ur0 Ft_cause Ft_stackTrace Ft_suppressedExceptions Ft_backtrace Ft_detailMessage g_r) hZ (hw _ (List.mem_of_getElem? (i := 202) rfl)) (hw _ (List.mem_of_getElem? (i := 201) rfl)) (by decide) (by decide) hTK hBelow) (g := (mkF m 2 #[rv r, rv mg] [(.ref mg), (.ref r)])) rfl (by rw [hml]; rfl) (Steps.refl _) (a := r) (argsL := [(.ref mg)]) (rest := []) (lenOf pd_8 rfl) rfl (by show 2 * 0 + _ ≤ _; exact Nat.le_of_eq rfl) (hb hby d38_2) (fun _ _ => ⟨rfl, e0, (by decide : 0 + 1 ≤ _), (by decide : 0 + 2752 ≤ _)⟩)
  dsimp only [Pt.U, Pt.locs, Pt.cells, Pt.slots] at X1 l1 y1 z1 st1 hQ1
  subst l1 y1 z1
  obtain ⟨rfl, N1q, Kq1⟩ := hQ1
  have N1 := Fr.app N0 N1q
  refine Ends.go (fun _ => st1.trans) ?_
  show Ends p.tables e below G (T1.setTop (mkF m 5 #[rv r, rv mg] []))
  refine own_finN X1 hx Bd.returns Bd.notSynchronized (hb hby d38_5) (Q := (Q38 Z r mg uU uS h0 n0)) hG (by decide) (by decide) ?_
  show (Q38 Z r mg uU uS h0 n0) _ T1.heap _
  exact ⟨rfl, N1, Kq1⟩
theorem d8_0 : decode prog_8_method_1_code 0 = .ok (.aload_n 0, 1) := by decide +kernel
theorem d8_1 : decode prog_8_method_1_code 1 = .ok (.new 1, 3) := by decide +kernel
theorem d8_4 : decode prog_8_method_1_code 4 = .ok (.dup, 1) := by decide +kernel
theorem d8_5 : decode prog_8_method_1_code 5 = .ok (.invokespecial 3, 3) := by decide +kernel
theorem d8_8 : decode prog_8_method_1_code 8 = .ok (.ldc 7, 2) := by decide +kernel
theorem d8_10 : decode prog_8_method_1_code 10 = .ok (.invokevirtual 9, 3) := by decide +kernel
theorem pd_24 : parseMethodDescriptor "(Ljava/lang/String;)Ljava/lang/StringBuilder;" = some ⟨[(.object "java/lang/String")], some (.object "java/lang/StringBuilder")⟩ := by decide +kernel
theorem d8_13 : decode prog_8_method_1_code 13 = .ok (.iload_n 1, 1) := by decide +kernel
theorem d8_14 : decode prog_8_method_1_code 14 = .ok (.ifCond .eq 8, 3) := by decide +kernel
theorem d8_17 : decode prog_8_method_1_code 17 = .ok (.ldc 13, 2) := by decide +kernel
theorem d8_19 : decode prog_8_method_1_code 19 = .ok (.goto 5, 3) := by decide +kernel
theorem d8_22 : decode prog_8_method_1_code 22 = .ok (.ldc 15, 2) := by decide +kernel
theorem d8_24 : decode prog_8_method_1_code 24 = .ok (.invokevirtual 9, 3) := by decide +kernel
theorem d8_27 : decode prog_8_method_1_code 27 = .ok (.ldc 17, 2) := by decide +kernel
theorem d8_29 : decode prog_8_method_1_code 29 = .ok (.invokevirtual 9, 3) := by decide +kernel
theorem d8_32 : decode prog_8_method_1_code 32 = .ok (.iload_n 2, 1) := by decide +kernel
theorem d8_33 : decode prog_8_method_1_code 33 = .ok (.invokevirtual 19, 3) := by decide +kernel
theorem pd_25 : parseMethodDescriptor "(I)Ljava/lang/StringBuilder;" = some ⟨[.int], some (.object "java/lang/StringBuilder")⟩ := by decide +kernel
theorem d8_36 : decode prog_8_method_1_code 36 = .ok (.ldc 22, 2) := by decide +kernel
theorem d8_38 : decode prog_8_method_1_code 38 = .ok (.invokevirtual 9, 3) := by decide +kernel
theorem d8_41 : decode prog_8_method_1_code 41 = .ok (.aload_n 3, 1) := by decide +kernel
theorem d8_42 : decode prog_8_method_1_code 42 = .ok (.invokevirtual 9, 3) := by decide +kernel
theorem d8_45 : decode prog_8_method_1_code 45 = .ok (.invokevirtual 24, 3) := by decide +kernel
theorem pd_26 : parseMethodDescriptor "()Ljava/lang/String;" = some ⟨[], some (.object "java/lang/String")⟩ := by decide +kernel
theorem d8_48 : decode prog_8_method_1_code 48 = .ok (.invokespecial 28, 3) := by decide +kernel
theorem d8_51 : decode prog_8_method_1_code 51 = .ok (.aload_n 0, 1) := by decide +kernel
theorem d8_52 : decode prog_8_method_1_code 52 = .ok (.iload_n 1, 1) := by decide +kernel
theorem d8_53 : decode prog_8_method_1_code 53 = .ok (.putfield 33, 3) := by decide +kernel
theorem d8_56 : decode prog_8_method_1_code 56 = .ok (.aload_n 0, 1) := by decide +kernel
theorem d8_57 : decode prog_8_method_1_code 57 = .ok (.iload_n 2, 1) := by decide +kernel
theorem d8_58 : decode prog_8_method_1_code 58 = .ok (.putfield 38, 3) := by decide +kernel
theorem d8_61 : decode prog_8_method_1_code 61 = .ok (.return_, 1) := by decide +kernel
theorem pn_8 : plainName "com/example/dispatchbook/dispatchbook/amqp/BrokerClosedException" = true := by first | (simp [plainName, overriddenIn]; done) | decide +kernel
theorem ef_8 (m : MethodId) (x0 : Addr) (x1 : Int32) (x2 : Int32) (x3 : Addr) : entryFrame m #[(.ref x0), (.int x1), (.int x2), (.ref x3)] 4 = mkF m 0 #[rv x0, iv x1, iv x2, rv x3] [] := by first | (simp [entryFrame, mkF, argsToLocals, Value.category]; done) | rfl
def Q8 (Z : State) (r : Addr) (ch : Int32) (cd : Int32) (x : Addr) (td : Addr) (dst : Addr) (a1 : Addr) (a2 : Addr) (DC1 : Cell) (DC2 : Cell) (uU : Addr) (uS : Addr) (zc : Int32) (h0 : Heap) (n0 : Nat) (v : Option Value) (h : Heap) (L : List Loc) : Prop := v = none ∧ Fr n0 L ∧ Keep h0 h [r] ∧ Exa Z h r "com/example/dispatchbook/dispatchbook/amqp/BrokerClosedException" ∧ Fld Z h r "com/example/dispatchbook/dispatchbook/amqp/BrokerClosedException" "channel" "Z" (.int ch) ∧ Fld Z h r "com/example/dispatchbook/dispatchbook/amqp/BrokerClosedException" "replyCode" "I" (.int cd)
set_option maxRecDepth 65536 in
set_option maxHeartbeats 40000000 in
theorem rm8 (l : Launch) (hl_ : l.stackTraces = true) (Z : State) (a0 : Array Value) (hw : ∀ d ∈ tables_1, d.before a0 Z = true) (ws : List Jvm.Cond) (r : Addr) (ch : Int32) (cd : Int32) (x : Addr) (td : Addr) (dst : Addr) (a1 : Addr) (a2 : Addr) (DC1 : Cell) (DC2 : Cell) (uU : Addr) (uS : Addr) (zc : Int32) (h0 : Heap) (n0 : Nat) (Z0 : n0 ≤ h0.size) (O0 : Old Z n0 h0) (SC : Sta Z Z.heap "java/lang/String" "COMPACT_STRINGS" "Z" (.int zc)) (hzc : ¬ (zc = (0 : Int32))) (TB1 : Jvm.Free.SBG.Tbl Z "DigitOnes" dst a1 DC1) (TB2 : Jvm.Free.SBG.Tbl Z "DigitTens" dst a2 DC2) (SU : Sta Z Z.heap "java/lang/Throwable" "UNASSIGNED_STACK" "[Ljava/lang/StackTraceElement;" (.ref uU)) (SS : Sta Z Z.heap "java/lang/Throwable" "SUPPRESSED_SENTINEL" "Ljava/util/List;" (.ref uS)) (ST : STF Z h0 x td (1 : Int32)) (hch : ch = 0 ∨ ch = 1) (Er0 : Exa Z h0 r "com/example/dispatchbook/dispatchbook/amqp/BrokerClosedException") (Ur0 : Unt h0 r) (Fr1 : Fld Z h0 r "java/lang/Throwable" "backtrace" "Ljava/lang/Object;" .null) (Fr2 : Fld Z h0 r "java/lang/Throwable" "detailMessage" "Ljava/lang/String;" .null) (Fr3 : Fld Z h0 r "com/example/dispatchbook/dispatchbook/amqp/BrokerClosedException" "channel" "Z" (.int 0)) (Fr4 : Fld Z h0 r "com/example/dispatchbook/dispatchbook/amqp/BrokerClosedException" "replyCode" "I" (.int 0)) (Fr5 : Fld Z h0 r "java/lang/Throwable" "cause" "Ljava/lang/Throwable;" .null) (Fr6 : Fld Z h0 r "java/lang/Throwable" "stackTrace" "[Ljava/lang/StackTraceElement;" .null) (Fr7 : Fld Z h0 r "java/lang/Throwable" "suppressedExceptions" "Ljava/util/List;" .null) (g_r : n0 ≤ r) :
    MetFree l (⟨"com/example/dispatchbook/dispatchbook/amqp/BrokerClosedException", "<init>", "(ZILjava/lang/String;)V"⟩ : MethodName) (head1 (Jvm.Cond.code (⟨"com/example/dispatchbook/dispatchbook/amqp/BrokerClosedException", "<init>", "(ZILjava/lang/String;)V"⟩ : MethodName) prog_8_method_1_code 4 none :: ws) ({ frames := 9, cells := 24, slots := 5800, locals := 208 } : Room)) (fun a U => a = #[(.ref r), (.int ch), (.int cd), (.ref x)] ∧ Z.Warmed39 U.vm ∧ U.heap = h0 ∧ CHv Z EL U.vm h0) (fun _ _ bl s _ => s.vm.MethodsKnown ∧ s.vm.FramesKnown bl) (fun _ U o U' => ∃ v L, o = .returned v ∧ Q8 Z r ch cd x td dst a1 a2 DC1 DC2 uU uS zc h0 n0 v U'.heap L ∧ CHr Z EL U.vm U.heap U'.vm U'.heap ∧ ReturnedEndW U o U' L ({ frames := 9, cells := 24, slots := 5800, locals := 208 } : Room).cells ({ frames := 9, cells := 24, slots := 5800, locals := 208 } : Room).slots) := by
  refine MetFree.of_bodySF (plainFor_of_name pn_8) hisR ?_
  intro p e s m args below meth c s₁ Bd hml0 hP hK
  obtain ⟨rfl, hZ, hh, HC⟩ := hP
  obtain ⟨hTK, hBelow⟩ := hK
  have hx := Bd.exec
  have hby := Bd.bytes
  have hml : c.maxLocals = 4 := hml0
  have hown : s.vm.findClass "com/example/dispatchbook/dispatchbook/amqp/BrokerClosedException" = some m.cls := findClass_of_methodNamed Bd.named
  have hnm := (name_of_methodNamed Bd.named Bd.method).1
  have X0 : Stand p l e ({ frames := 9, cells := 24, slots := 5800, locals := 208 } : Room) s m #[(.ref r), (.int ch), (.int cd), (.ref x)] below meth c s₁ [] 0 0 := Stand.of_body Bd
  have e0 : s₁.heap = h0 := by rw [← hh, Bd.state]; rfl
  have N0 := Fr.nil n0
  have C0 := CHr.refl HC
  have hS : s.Since s.vm 0 := (State.WarmedH.refl s).since 0
  have hkS : 0 ≤ h0.size := Nat.zero_le _
  have wS := own_wS hw
  have hEL := own_EW hw
  show Ends p.tables e below (fun (s₂ : State) (o : Outcome) => ∃ v L, o = .returned v ∧ (Q8 Z r ch cd x td dst a1 a2 DC1 DC2 uU uS zc h0 n0) v s₂.heap L ∧ CHr Z EL s.vm s.heap s₂.vm s₂.heap ∧ ReturnedEndW s o s₂ L ({ frames := 9, cells := 24, slots := 5800, locals := 208 } : Room).cells ({ frames := 9, cells := 24, slots := 5800, locals := 208 } : Room).slots) (s₁.setTop (entryFrame m #[(.ref r), (.int ch), (.int cd), (.ref x)] 4))
  refine Ends.any fun G hG => ?_
  refine Ends.go (fun t k => castTop (ef_8 m r ch cd x) k) ?_
  show Ends p.tables e below G (s₁.setTop (mkF m 0 #[rv r, iv ch, iv cd, rv x] []))
  obtain ⟨Es_x, Fv_x, Fc_x, Bs_x⟩ := ST
  refine Ends.go (fun _ => XS.aloadN X0.here hx rfl (hb hby d8_0) rfl rfl) ?_
  show Ends p.tables e below G (s₁.setTop (mkF m 1 #[rv r, iv ch, iv cd, rv x] [(.ref r)]))
  obtain ⟨T1, h1, X1, e1, E1, A1, D1, U1, st1⟩ := newO X0 hx hZ hown (hw _ (List.mem_of_getElem? (i := 40) rfl)) (hw _ (List.mem_of_getElem? (i := 41) rfl)) (hw _ (List.mem_of_getElem? (i := 42) rfl)) e0 (g := (mkF m 1 #[rv r, iv ch, iv cd, rv x] [(.ref r)])) rfl (hb hby d8_1) (by decide) (by decide)
  obtain ⟨b1, g1⟩ : ∃ z, z = h0.size := ⟨_, rfl⟩
  rw [← g1] at A1 D1 U1 st1
  have g_b1 : n0 ≤ b1 := Nat.le_trans Z0 (Nat.le_of_eq g1.symm)
  have szo_b1 : h0.size ≤ b1 := Nat.le_trans ((Keep.refl h0 [r])).1 (Nat.le_of_eq g1.symm)
  have ne_r_b1 : r ≠ b1 := Nat.ne_of_lt (Nat.lt_of_lt_of_le Er0.lt (Nat.le_of_eq g1.symm))
  have ne_x_b1 : x ≠ b1 := Nat.ne_of_lt (Nat.lt_of_lt_of_le Es_x.lt (Nat.le_of_eq g1.symm))
  have ne_td_b1 : td ≠ b1 := Nat.ne_of_lt (Nat.lt_of_lt_of_le (BA.lt Bs_x) (Nat.le_of_eq g1.symm))
  have sfb1 : Safe Z EL s.vm h0 b1 := Safe.new (Nat.le_of_eq g1.symm)
  have f1_E_r := Er0.ext E1
  have f1_U_r := Ur0.ext E1
  have f1_F_r_backtrace := Fr1.ext E1
  have f1_F_r_detailMessage := Fr2.ext E1
  have f1_F_r_cause := Fr5.ext E1
  have f1_F_r_stackTrace := Fr6.ext E1
  have f1_F_r_suppressedExceptions := Fr7.ext E1
  have f1_F_r_channel := Fr3.ext E1
  have f1_F_r_replyCode := Fr4.ext E1
  have f1_E_x := Es_x.ext E1
  have f1_F_x_value := Fv_x.ext E1
  have f1_F_x_coder := Fc_x.ext E1
  have f1_P_td := BA.ext Bs_x E1
  have sz1 := Nat.le_trans Z0 E1.1
  have K1 := Keep.ext (Keep.refl h0 [r]) E1
  have O1 := Old.ext O0 E1
  have hkS := Nat.le_trans hkS E1.1
  have sf1_b1 := Safe.ext E1 C0.1 sfb1
  have C1 := CHr.trans C0 (CHr.ext E1 C0.1)
  have F1_value : Fld Z h1 b1 "java/lang/AbstractStringBuilder" "value" "[B" .null := D1 (Or.inl (hw _ (List.mem_of_getElem? (i := 55) rfl))) (ty := (.array .byte)) (by decide)
  have F1_coder : Fld Z h1 b1 "java/lang/AbstractStringBuilder" "coder" "B" (.int (0 : Int32)) := D1 (Or.inl (hw _ (List.mem_of_getElem? (i := 57) rfl))) (ty := .byte) (by decide)
  have F1_count : Fld Z h1 b1 "java/lang/AbstractStringBuilder" "count" "I" (.int (0 : Int32)) := D1 (Or.inl (hw _ (List.mem_of_getElem? (i := 82) rfl))) (ty := .int) (by decide)
  refine Ends.go (fun _ => st1 _) ?_
  show Ends p.tables e below G (T1.setTop (mkF m 4 #[rv r, iv ch, iv cd, rv x] [(.ref b1), (.ref r)]))
  refine Ends.go (fun _ => XS.dup X1.here hx rfl (hb hby d8_4) rfl rfl) ?_
  show Ends p.tables e below G (T1.setTop (mkF m 5 #[rv r, iv ch, iv cd, rv x] [(.ref b1), (.ref b1), (.ref r)]))
  obtain ⟨_, _, ⟨T2, L2, k2, n2⟩, -, X2, ⟨Lc2, hQ2, l2, y2, z2⟩, st2⟩ := X1.specialBack hx (y := (⟨"java/lang/StringBuilder", "<init>", "()V"⟩ : MethodName)) rfl hown (mvT hZ (hw _ (List.mem_of_getElem? (i := 43) rfl))) (mvT hZ (hw _ (List.mem_of_getElem? (i := 44) rfl))) (mvT hZ (hw _ (List.mem_of_getElem? (i := 45) rfl))) (by decide) (backOf (W := 2) (rm9 l Z a0 hw [] b1 zc h1 n0 sz1 O1 SC hzc A1 ⟨_, F1_value⟩ ⟨_, F1_coder⟩ F1_count g_b1) hZ (hw _ (List.mem_of_getElem? (i := 45) rfl)) (hw _ (List.mem_of_getElem? (i := 42) rfl)) (by decide) (by decide)) (g := (mkF m 5 #[rv r, iv ch, iv cd, rv x] [(.ref b1), (.ref b1), (.ref r)])) rfl (by rw [hml]; rfl) (Steps.refl _) (a := b1) (argsL := []) (rest := [(.ref b1), (.ref r)]) (lenOf pd_18 rfl) rfl (by show 2 * 0 + _ ≤ _; exact Nat.le_of_eq rfl) (hb hby d8_5) (fun _ _ => ⟨rfl, e1, (by decide : (0 + 1) + 1 ≤ _), (by decide : (0 + 4) + 16 ≤ _)⟩)
  dsimp only [Pt.U, Pt.locs, Pt.cells, Pt.slots] at X2 l2 y2 z2 st2 hQ2
  subst l2 y2 z2
  obtain ⟨dn2, rfl, N2q, Kq2, Sq2, gs2, gq2⟩ := hQ2
  have N2 := Fr.app N0 N2q
  have sfn2 : Safe Z EL s.vm h1 dn2 := Safe.new gs2
  have nd2_td : td ≠ dn2 := Nat.ne_of_lt (Nat.lt_of_lt_of_le (BA.lt f1_P_td) gs2)
  have szo_dn2 : h0.size ≤ dn2 := Nat.le_trans (K1).1 gs2
  have hs2 : ∀ y ∈ ([b1] : List Addr), Safe Z EL s.vm h1 y := (sfS sf1_b1 sf0)
  have f2_E_r := Exa.keep f1_E_r Kq2
  have f2_U_r := Unt.keep Kq2 (ninS ne_r_b1 nin0) f1_U_r
  have f2_F_r_backtrace := Fld.keep f1_F_r_backtrace Kq2 (ninS ne_r_b1 nin0)
  have f2_F_r_detailMessage := Fld.keep f1_F_r_detailMessage Kq2 (ninS ne_r_b1 nin0)
  have f2_F_r_cause := Fld.keep f1_F_r_cause Kq2 (ninS ne_r_b1 nin0)
  have f2_F_r_stackTrace := Fld.keep f1_F_r_stackTrace Kq2 (ninS ne_r_b1 nin0)
  have f2_F_r_suppressedExceptions := Fld.keep f1_F_r_suppressedExceptions Kq2 (ninS ne_r_b1 nin0)
  have f2_F_r_channel := Fld.keep f1_F_r_channel Kq2 (ninS ne_r_b1 nin0)
  have f2_F_r_replyCode := Fld.keep f1_F_r_replyCode Kq2 (ninS ne_r_b1 nin0)
  have f2_E_x := Exa.keep f1_E_x Kq2
  have f2_F_x_value := Fld.keep f1_F_x_value Kq2 (ninS ne_x_b1 nin0)
  have f2_F_x_coder := Fld.keep f1_F_x_coder Kq2 (ninS ne_x_b1 nin0)
  have f2_P_td := BA.keep f1_P_td Kq2 (ninS ne_td_b1 nin0)
  have f2_E_b1 := Exa.keep A1 Kq2
  have sz2 := Nat.le_trans sz1 (Kq2).1
  have K2z := Keep.trans K1 Kq2 (allS (Or.inr szo_b1) all0)
  have O2 := Old.keep O1 Kq2 (allS g_b1 all0)
  have hkS := Nat.le_trans hkS (Kq2).1
  have sf2_b1 := Safe.keep Kq2 hs2 C1.1 sf1_b1
  have sf2_dn2 := Safe.keep Kq2 hs2 C1.1 sfn2
  have C2 := CHr.trans C1 (CHr.keep Kq2 hs2 C1.1)
  obtain ⟨Ee2, Fe2, Ge2, He2, Be2, Ze2⟩ := Sq2
  refine Ends.go (fun _ => st2.trans) ?_
  show Ends p.tables e below G (T2.setTop (mkF m 8 #[rv r, iv ch, iv cd, rv x] [(.ref b1), (.ref r)]))
  obtain ⟨ls3, T3, h3, ks3, ld3, kl3, X3, e3, E3, hS, hkS, hZ, hown, Es3, Fc3, Fv3, Av3, -, -, cr3, -, nn3, st3⟩ := ldcCH (s := s) (vm0 := s.vm) X2 hx hZ hown (hw _ (List.mem_of_getElem? (i := 58) rfl)) wS rfl hS hkS hEL (List.mem_of_getElem? (i := 0) rfl) C2.1 (z := (22 : Int32)) ⟨by decide +kernel, rfl⟩ (by decide) (by decide +kernel) (g := (mkF m 8 #[rv r, iv ch, iv cd, rv x] [(.ref b1), (.ref r)])) rfl (hb hby d8_8) (n := 88) (by decide +kernel) (by decide) (by decide) (by decide)
  have sf3_dn2 := CHr.safe cr3 (BA.lt Be2) sf2_dn2
  have nl3_dn2 := nn3 _ sf3_dn2
  have f3_E_r := f2_E_r.ext E3
  have f3_U_r := f2_U_r.ext E3
  have f3_F_r_backtrace := f2_F_r_backtrace.ext E3
  have f3_F_r_detailMessage := f2_F_r_detailMessage.ext E3
  have f3_F_r_cause := f2_F_r_cause.ext E3
  have f3_F_r_stackTrace := f2_F_r_stackTrace.ext E3
  have f3_F_r_suppressedExceptions := f2_F_r_suppressedExceptions.ext E3
  have f3_F_r_channel := f2_F_r_channel.ext E3
  have f3_F_r_replyCode := f2_F_r_replyCode.ext E3
  have f3_E_x := f2_E_x.ext E3
  have f3_F_x_value := f2_F_x_value.ext E3
  have f3_F_x_coder := f2_F_x_coder.ext E3
  have f3_P_td := BA.ext f2_P_td E3
  have f3_E_b1 := Ee2.ext E3
  have f3_F_b1_value := Fe2.ext E3
  have f3_F_b1_coder := Ge2.ext E3
  have f3_F_b1_count := He2.ext E3
  have f3_P_dn2 := BA.ext Be2 E3
  have f3_E_dn2 := Ze2.ext E3
  have sz3 := Nat.le_trans sz2 E3.1
  have K3 := Keep.ext K2z E3
  have O3 := Old.ext O2 E3
  have C3 := CHr.trans C2 cr3
  have Bl3 : BA Z h3 ld3 (22 : Int32) := ⟨_, _, Av3⟩
  refine Ends.go (fun _ => st3 _) ?_
  show Ends p.tables e below G (T3.setTop (mkF m 10 #[rv r, iv ch, iv cd, rv x] [(.ref ls3), (.ref b1), (.ref r)]))
  obtain ⟨cq4, kq4, q4a, q4b, q4c⟩ := isOf hZ e3 f3_E_b1
  obtain ⟨_, _, ⟨T4, L4, k4, n4⟩, -, X4, ⟨Lc4, hQ4, l4, y4, z4⟩, st4⟩ := X3.virtualBack hx (y := (⟨"java/lang/StringBuilder", "append", "(Ljava/lang/String;)Ljava/lang/StringBuilder;"⟩ : MethodName)) (z := (⟨"java/lang/StringBuilder", "append", "(Ljava/lang/String;)Ljava/lang/StringBuilder;"⟩ : MethodName)) hown (mvT hZ (hw _ (List.mem_of_getElem? (i := 61) rfl))) (mvT hZ (hw _ (List.mem_of_getElem? (i := 62) rfl))) (notFace_of_selects (args := #[]) (mvT hZ (hw _ (List.mem_of_getElem? (i := 64) rfl)))) (mvT hZ (hw _ (List.mem_of_getElem? (i := 64) rfl))) (mvT hZ (hw _ (List.mem_of_getElem? (i := 63) rfl))) (by decide) (backOf (W := 1) (rm11 l Z a0 hw [] b1 dn2 (16 : Int32) (0 : Int32) ls3 ld3 (22 : Int32) 16 0 22 zc h3 n0 sz3 O3 SC hzc ⟨f3_E_b1, f3_F_b1_value, f3_F_b1_coder, f3_F_b1_count, f3_P_dn2, f3_E_dn2⟩ ⟨Es3, Fv3, Fc3, Bl3⟩ g_b1 gq2 (Ne.symm nl3_dn2.2) rfl rfl rfl (by omega)) hZ (hw _ (List.mem_of_getElem? (i := 65) rfl)) (hw _ (List.mem_of_getElem? (i := 42) rfl)) (by decide) (by decide)) q4a q4c (g := (mkF m 10 #[rv r, iv ch, iv cd, rv x] [(.ref ls3), (.ref b1), (.ref r)])) rfl (by rw [hml]; rfl) (Steps.refl _) (argsL := [(.ref ls3)]) (rest := [(.ref r)]) (lenOf pd_24 rfl) rfl (by show 2 * 0 + _ ≤ _; exact Nat.le_of_eq rfl) (hb hby d8_10) (fun _ _ => ⟨rfl, e3, (by decide : (((0 + 1) + 1) + 2) + 1 ≤ _), (by decide : (((0 + 4) + 16) + 92) + 400 ≤ _)⟩)
  dsimp only [Pt.U, Pt.locs, Pt.cells, Pt.slots] at X4 l4 y4 z4 st4 hQ4
  subst l4 y4 z4
  obtain ⟨dn4, za4, an4, zq4, rfl, N4q, Kq4, Sq4, hz4, hq4, gq4, hg4⟩ := hQ4
  have N4 := Fr.app N2 N4q
  have sfn4 : Safe Z EL T3.vm h3 dn4 := by
    rcases hg4 with ⟨-, -, q3⟩ | ⟨-, q2, -⟩
    · rw [q3]; exact sf3_dn2
    · exact Safe.new q2
  have nd4_ld3 : ld3 ≠ dn4 := by
    rcases hg4 with ⟨-, -, q3⟩ | ⟨-, q2, -⟩
    · rw [q3]; exact (Ne.symm nl3_dn2.2)
    · exact Nat.ne_of_lt (Nat.lt_of_lt_of_le (BA.lt Bl3) q2)
  have nd4_td : td ≠ dn4 := by
    rcases hg4 with ⟨-, -, q3⟩ | ⟨-, q2, -⟩
    · rw [q3]; exact nd2_td
    · exact Nat.ne_of_lt (Nat.lt_of_lt_of_le (BA.lt f3_P_td) q2)
  have szo_dn4 : h0.size ≤ dn4 := by
    rcases hg4 with ⟨-, -, q3⟩ | ⟨-, q2, -⟩
    · rw [q3]; exact szo_dn2
    · exact Nat.le_trans (K3).1 q2
  have nq_r_dn2 : r ≠ dn2 := Exa.ne f3_E_r f3_E_dn2 (by decide)
  have nq_x_dn2 : x ≠ dn2 := Exa.ne f3_E_x f3_E_dn2 (by decide)
  have nq_ls3_b1 : ls3 ≠ b1 := Exa.ne Es3 f3_E_b1 (by decide)
  have nq_ld3_b1 : ld3 ≠ b1 := Ne.symm (own_neB f3_E_b1 Bl3 (hw _ (List.mem_of_getElem? (i := 41) rfl)))
  have hs4 : ∀ y ∈ ([b1, dn2] : List Addr), Safe Z EL T3.vm h3 y := (sfS (Safe.exa hZ.alike f3_E_b1 (by decide) (by decide)) (sfS sf3_dn2 sf0))
  have f4_E_r := Exa.keep f3_E_r Kq4
  have f4_U_r := Unt.keep Kq4 (ninS ne_r_b1 (ninS nq_r_dn2 nin0)) f3_U_r
  have f4_F_r_backtrace := Fld.keep f3_F_r_backtrace Kq4 (ninS ne_r_b1 (ninS nq_r_dn2 nin0))
  have f4_F_r_detailMessage := Fld.keep f3_F_r_detailMessage Kq4 (ninS ne_r_b1 (ninS nq_r_dn2 nin0))
  have f4_F_r_cause := Fld.keep f3_F_r_cause Kq4 (ninS ne_r_b1 (ninS nq_r_dn2 nin0))
  have f4_F_r_stackTrace := Fld.keep f3_F_r_stackTrace Kq4 (ninS ne_r_b1 (ninS nq_r_dn2 nin0))
  have f4_F_r_suppressedExceptions := Fld.keep f3_F_r_suppressedExceptions Kq4 (ninS ne_r_b1 (ninS nq_r_dn2 nin0))
  have f4_F_r_channel := Fld.keep f3_F_r_channel Kq4 (ninS ne_r_b1 (ninS nq_r_dn2 nin0))
  have f4_F_r_replyCode := Fld.keep f3_F_r_replyCode Kq4 (ninS ne_r_b1 (ninS nq_r_dn2 nin0))
  have f4_E_x := Exa.keep f3_E_x Kq4
  have f4_F_x_value := Fld.keep f3_F_x_value Kq4 (ninS ne_x_b1 (ninS nq_x_dn2 nin0))
  have f4_F_x_coder := Fld.keep f3_F_x_coder Kq4 (ninS ne_x_b1 (ninS nq_x_dn2 nin0))
  have f4_P_td := BA.keep f3_P_td Kq4 (ninS ne_td_b1 (ninS nd2_td nin0))
  have f4_E_b1 := Exa.keep f3_E_b1 Kq4
  have f4_E_dn2 := Exa.keep f3_E_dn2 Kq4
  have f4_E_ls3 := Exa.keep Es3 Kq4
  have f4_F_ls3_value := Fld.keep Fv3 Kq4 (ninS nq_ls3_b1 (ninS (Ne.symm nl3_dn2.1) nin0))
  have f4_F_ls3_coder := Fld.keep Fc3 Kq4 (ninS nq_ls3_b1 (ninS (Ne.symm nl3_dn2.1) nin0))
  have f4_P_ld3 := BA.keep Bl3 Kq4 (ninS nq_ld3_b1 (ninS (Ne.symm nl3_dn2.2) nin0))
  have sz4 := Nat.le_trans sz3 (Kq4).1
  have K4z := Keep.trans K3 Kq4 (allS (Or.inr szo_b1) (allS (Or.inr szo_dn2) all0))
  have O4 := Old.keep O3 Kq4 (allS g_b1 (allS gq2 all0))
  have hkS := Nat.le_trans hkS (Kq4).1
  have sf4_dn2 := Safe.keep Kq4 hs4 C3.1 sf3_dn2
  have sf4_dn4 := Safe.keep Kq4 hs4 C3.1 sfn4
  have C4 := CHr.trans C3 (CHr.keep Kq4 hs4 C3.1)
  obtain ⟨Ee4, Fe4, Ge4, He4, Be4, Ze4⟩ := Sq4
  have hi4 : (an4 = 34 ∨ an4 = 70) ∧ (0 + 22) ≤ an4 ∧ (0 + 22) ≤ 47 := by rcases hg4 with ⟨q1, q2, -⟩ | ⟨q1, -, kk, q3, q4, q5, q6⟩ <;> omega
  refine Ends.go (fun _ => st4.trans) ?_
  show Ends p.tables e below G (T4.setTop (mkF m 13 #[rv r, iv ch, iv cd, rv x] [(.ref b1), (.ref r)]))
  refine Ends.go (fun _ => XS.iloadN X4.here hx rfl (hb hby d8_13) rfl) ?_
  show Ends p.tables e below G (T4.setTop (mkF m 14 #[rv r, iv ch, iv cd, rv x] [(.int ch), (.ref b1), (.ref r)]))
  by_cases hch0 : ch = (0 : Int32)
  · refine Ends.go (fun _ => XS.ifYes X4.here hx rfl (pc0 := 14) (pc' := 22) rfl (hb hby d8_14) rfl ((if0 _ _).trans (teq (hch0 : ch = (0 : Int32))).1) (by decide) (by decide)) ?_
    show Ends p.tables e below G (T4.setTop (mkF m 22 #[rv r, iv ch, iv cd, rv x] [(.ref b1), (.ref r)]))
    obtain ⟨ls5, T5, h5, ks5, ld5, kl5, X5, e5, E5, hS, hkS, hZ, hown, Es5, Fc5, Fv5, Av5, -, -, cr5, -, nn5, st5⟩ := ldcCH (s := s) (vm0 := T3.vm) X4 hx hZ hown (hw _ (List.mem_of_getElem? (i := 131) rfl)) wS rfl hS hkS hEL (List.mem_of_getElem? (i := 2) rfl) C4.1 (z := (10 : Int32)) ⟨by decide +kernel, rfl⟩ (by decide) (by decide +kernel) (g := (mkF m 22 #[rv r, iv ch, iv cd, rv x] [(.ref b1), (.ref r)])) rfl (hb hby d8_22) (n := 40) (by decide +kernel) (by decide) (by decide) (by decide)
    have sf5_dn4 := CHr.safe cr5 (BA.lt Be4) sf4_dn4
    have nl5_dn4 := nn5 _ sf5_dn4
    have f5_E_r := f4_E_r.ext E5
    have f5_U_r := f4_U_r.ext E5
    have f5_F_r_backtrace := f4_F_r_backtrace.ext E5
    have f5_F_r_detailMessage := f4_F_r_detailMessage.ext E5
    have f5_F_r_cause := f4_F_r_cause.ext E5
    have f5_F_r_stackTrace := f4_F_r_stackTrace.ext E5
    have f5_F_r_suppressedExceptions := f4_F_r_suppressedExceptions.ext E5
    have f5_F_r_channel := f4_F_r_channel.ext E5
    have f5_F_r_replyCode := f4_F_r_replyCode.ext E5
    have f5_E_x := f4_E_x.ext E5
    have f5_F_x_value := f4_F_x_value.ext E5
    have f5_F_x_coder := f4_F_x_coder.ext E5
    have f5_P_td := BA.ext f4_P_td E5
    have f5_E_b1 := Ee4.ext E5
    have f5_F_b1_value := Fe4.ext E5
    have f5_F_b1_coder := Ge4.ext E5
    have f5_F_b1_count := He4.ext E5
    have f5_P_dn4 := BA.ext Be4 E5
    have f5_E_dn4 := Ze4.ext E5
    have sz5 := Nat.le_trans sz4 E5.1
    have K5 := Keep.ext K4z E5
    have O5 := Old.ext O4 E5
    have C5 := CHr.trans C4 cr5
    have Bl5 : BA Z h5 ld5 (10 : Int32) := ⟨_, _, Av5⟩
    refine Ends.go (fun _ => st5 _) ?_
    show Ends p.tables e below G (T5.setTop (mkF m 24 #[rv r, iv ch, iv cd, rv x] [(.ref ls5), (.ref b1), (.ref r)]))
    obtain ⟨cq6, kq6, q6a, q6b, q6c⟩ := isOf hZ e5 f5_E_b1
    obtain ⟨_, _, ⟨T6, L6, k6, n6⟩, -, X6, ⟨Lc6, hQ6, l6, y6, z6⟩, st6⟩ := X5.virtualBack hx (y := (⟨"java/lang/StringBuilder", "append", "(Ljava/lang/String;)Ljava/lang/StringBuilder;"⟩ : MethodName)) (z := (⟨"java/lang/StringBuilder", "append", "(Ljava/lang/String;)Ljava/lang/StringBuilder;"⟩ : MethodName)) hown (mvT hZ (hw _ (List.mem_of_getElem? (i := 61) rfl))) (mvT hZ (hw _ (List.mem_of_getElem? (i := 62) rfl))) (notFace_of_selects (args := #[]) (mvT hZ (hw _ (List.mem_of_getElem? (i := 64) rfl)))) (mvT hZ (hw _ (List.mem_of_getElem? (i := 64) rfl))) (mvT hZ (hw _ (List.mem_of_getElem? (i := 63) rfl))) (by decide) (backOf (W := 1) (rm11 l Z a0 hw [] b1 dn4 za4 zq4 ls5 ld5 (10 : Int32) an4 (0 + 22) 10 zc h5 n0 sz5 O5 SC hzc ⟨f5_E_b1, f5_F_b1_value, f5_F_b1_coder, f5_F_b1_count, f5_P_dn4, f5_E_dn4⟩ ⟨Es5, Fv5, Fc5, Bl5⟩ g_b1 gq4 (Ne.symm nl5_dn4.2) hz4 hq4 rfl (by omega)) hZ (hw _ (List.mem_of_getElem? (i := 65) rfl)) (hw _ (List.mem_of_getElem? (i := 42) rfl)) (by decide) (by decide)) q6a q6c (g := (mkF m 24 #[rv r, iv ch, iv cd, rv x] [(.ref ls5), (.ref b1), (.ref r)])) rfl (by rw [hml]; rfl) (Steps.refl _) (argsL := [(.ref ls5)]) (rest := [(.ref r)]) (lenOf pd_24 rfl) rfl (by show 2 * 0 + _ ≤ _; exact Nat.le_of_eq rfl) (hb hby d8_24) (fun _ _ => ⟨rfl, e5, (by decide : (((((0 + 1) + 1) + 2) + 1) + 2) + 1 ≤ _), (by decide : (((((0 + 4) + 16) + 92) + 400) + 44) + 400 ≤ _)⟩)
    dsimp only [Pt.U, Pt.locs, Pt.cells, Pt.slots] at X6 l6 y6 z6 st6 hQ6
    subst l6 y6 z6
    obtain ⟨dn6, za6, an6, zq6, rfl, N6q, Kq6, Sq6, hz6, hq6, gq6, hg6⟩ := hQ6
    have N6 := Fr.app N4 N6q
    have sfn6 : Safe Z EL T5.vm h5 dn6 := by
      rcases hg6 with ⟨-, -, q3⟩ | ⟨-, q2, -⟩
      · rw [q3]; exact sf5_dn4
      · exact Safe.new q2
    have nd6_ld5 : ld5 ≠ dn6 := by
      rcases hg6 with ⟨-, -, q3⟩ | ⟨-, q2, -⟩
      · rw [q3]; exact (Ne.symm nl5_dn4.2)
      · exact Nat.ne_of_lt (Nat.lt_of_lt_of_le (BA.lt Bl5) q2)
    have nd6_td : td ≠ dn6 := by
      rcases hg6 with ⟨-, -, q3⟩ | ⟨-, q2, -⟩
      · rw [q3]; exact nd4_td
      · exact Nat.ne_of_lt (Nat.lt_of_lt_of_le (BA.lt f5_P_td) q2)
    have szo_dn6 : h0.size ≤ dn6 := by
      rcases hg6 with ⟨-, -, q3⟩ | ⟨-, q2, -⟩
      · rw [q3]; exact szo_dn4
      · exact Nat.le_trans (K5).1 q2
    have nq_r_dn4 : r ≠ dn4 := Exa.ne f5_E_r f5_E_dn4 (by decide)
    have nq_x_dn4 : x ≠ dn4 := Exa.ne f5_E_x f5_E_dn4 (by decide)
    have nq_ls5_b1 : ls5 ≠ b1 := Exa.ne Es5 f5_E_b1 (by decide)
    have nq_ld5_b1 : ld5 ≠ b1 := Ne.symm (own_neB f5_E_b1 Bl5 (hw _ (List.mem_of_getElem? (i := 41) rfl)))
    have hs6 : ∀ y ∈ ([b1, dn4] : List Addr), Safe Z EL T5.vm h5 y := (sfS (Safe.exa hZ.alike f5_E_b1 (by decide) (by decide)) (sfS sf5_dn4 sf0))
    have f6_E_r := Exa.keep f5_E_r Kq6
    have f6_U_r := Unt.keep Kq6 (ninS ne_r_b1 (ninS nq_r_dn4 nin0)) f5_U_r
    have f6_F_r_backtrace := Fld.keep f5_F_r_backtrace Kq6 (ninS ne_r_b1 (ninS nq_r_dn4 nin0))
    have f6_F_r_detailMessage := Fld.keep f5_F_r_detailMessage Kq6 (ninS ne_r_b1 (ninS nq_r_dn4 nin0))
    have f6_F_r_cause := Fld.keep f5_F_r_cause Kq6 (ninS ne_r_b1 (ninS nq_r_dn4 nin0))
    have f6_F_r_stackTrace := Fld.keep f5_F_r_stackTrace Kq6 (ninS ne_r_b1 (ninS nq_r_dn4 nin0))
    have f6_F_r_suppressedExceptions := Fld.keep f5_F_r_suppressedExceptions Kq6 (ninS ne_r_b1 (ninS nq_r_dn4 nin0))
    have f6_F_r_channel := Fld.keep f5_F_r_channel Kq6 (ninS ne_r_b1 (ninS nq_r_dn4 nin0))
    have f6_F_r_replyCode := Fld.keep f5_F_r_replyCode Kq6 (ninS ne_r_b1 (ninS nq_r_dn4 nin0))
    have f6_E_x := Exa.keep f5_E_x Kq6
    have f6_F_x_value := Fld.keep f5_F_x_value Kq6 (ninS ne_x_b1 (ninS nq_x_dn4 nin0))
    have f6_F_x_coder := Fld.keep f5_F_x_coder Kq6 (ninS ne_x_b1 (ninS nq_x_dn4 nin0))
    have f6_P_td := BA.keep f5_P_td Kq6 (ninS ne_td_b1 (ninS nd4_td nin0))
    have f6_E_b1 := Exa.keep f5_E_b1 Kq6
    have f6_E_dn4 := Exa.keep f5_E_dn4 Kq6
    have f6_E_ls5 := Exa.keep Es5 Kq6
    have f6_F_ls5_value := Fld.keep Fv5 Kq6 (ninS nq_ls5_b1 (ninS (Ne.symm nl5_dn4.1) nin0))
    have f6_F_ls5_coder := Fld.keep Fc5 Kq6 (ninS nq_ls5_b1 (ninS (Ne.symm nl5_dn4.1) nin0))
    have f6_P_ld5 := BA.keep Bl5 Kq6 (ninS nq_ld5_b1 (ninS (Ne.symm nl5_dn4.2) nin0))
    have sz6 := Nat.le_trans sz5 (Kq6).1
    have K6z := Keep.trans K5 Kq6 (allS (Or.inr szo_b1) (allS (Or.inr szo_dn4) all0))
    have O6 := Old.keep O5 Kq6 (allS g_b1 (allS gq4 all0))
    have hkS := Nat.le_trans hkS (Kq6).1
    have sf6_dn4 := Safe.keep Kq6 hs6 C5.1 sf5_dn4
    have sf6_dn6 := Safe.keep Kq6 hs6 C5.1 sfn6
    have C6 := CHr.trans C5 (CHr.keep Kq6 hs6 C5.1)
    obtain ⟨Ee6, Fe6, Ge6, He6, Be6, Ze6⟩ := Sq6
    have hi6 : (an6 = 34 ∨ an6 = 70) ∧ ((0 + 22) + 10) ≤ an6 ∧ ((0 + 22) + 10) ≤ 47 := by rcases hg6 with ⟨q1, q2, -⟩ | ⟨q1, -, kk, q3, q4, q5, q6⟩ <;> omega
    refine Ends.go (fun _ => st6.trans) ?_
    show Ends p.tables e below G (T6.setTop (mkF m 27 #[rv r, iv ch, iv cd, rv x] [(.ref b1), (.ref r)]))
    obtain ⟨ls7, T7, h7, ks7, ld7, kl7, X7, e7, E7, hS, hkS, hZ, hown, Es7, Fc7, Fv7, Av7, -, -, cr7, -, nn7, st7⟩ := ldcCH (s := s) (vm0 := T5.vm) X6 hx hZ hown (hw _ (List.mem_of_getElem? (i := 132) rfl)) wS rfl hS hkS hEL (List.mem_of_getElem? (i := 3) rfl) C6.1 (z := (2 : Int32)) ⟨by decide +kernel, rfl⟩ (by decide) (by decide +kernel) (g := (mkF m 27 #[rv r, iv ch, iv cd, rv x] [(.ref b1), (.ref r)])) rfl (hb hby d8_27) (n := 40) (by decide +kernel) (by decide) (by decide) (by decide)
    have sf7_dn6 := CHr.safe cr7 (BA.lt Be6) sf6_dn6
    have nl7_dn6 := nn7 _ sf7_dn6
    have f7_E_r := f6_E_r.ext E7
    have f7_U_r := f6_U_r.ext E7
    have f7_F_r_backtrace := f6_F_r_backtrace.ext E7
    have f7_F_r_detailMessage := f6_F_r_detailMessage.ext E7
    have f7_F_r_cause := f6_F_r_cause.ext E7
    have f7_F_r_stackTrace := f6_F_r_stackTrace.ext E7
    have f7_F_r_suppressedExceptions := f6_F_r_suppressedExceptions.ext E7
    have f7_F_r_channel := f6_F_r_channel.ext E7
    have f7_F_r_replyCode := f6_F_r_replyCode.ext E7
    have f7_E_x := f6_E_x.ext E7
    have f7_F_x_value := f6_F_x_value.ext E7
    have f7_F_x_coder := f6_F_x_coder.ext E7
    have f7_P_td := BA.ext f6_P_td E7
    have f7_E_b1 := Ee6.ext E7
    have f7_F_b1_value := Fe6.ext E7
    have f7_F_b1_coder := Ge6.ext E7
    have f7_F_b1_count := He6.ext E7
    have f7_P_dn6 := BA.ext Be6 E7
    have f7_E_dn6 := Ze6.ext E7
    have sz7 := Nat.le_trans sz6 E7.1
    have K7 := Keep.ext K6z E7
    have O7 := Old.ext O6 E7
    have C7 := CHr.trans C6 cr7
    have Bl7 : BA Z h7 ld7 (2 : Int32) := ⟨_, _, Av7⟩
    refine Ends.go (fun _ => st7 _) ?_
    show Ends p.tables e below G (T7.setTop (mkF m 29 #[rv r, iv ch, iv cd, rv x] [(.ref ls7), (.ref b1), (.ref r)]))
    obtain ⟨cq8, kq8, q8a, q8b, q8c⟩ := isOf hZ e7 f7_E_b1
    obtain ⟨_, _, ⟨T8, L8, k8, n8⟩, -, X8, ⟨Lc8, hQ8, l8, y8, z8⟩, st8⟩ := X7.virtualBack hx (y := (⟨"java/lang/StringBuilder", "append", "(Ljava/lang/String;)Ljava/lang/StringBuilder;"⟩ : MethodName)) (z := (⟨"java/lang/StringBuilder", "append", "(Ljava/lang/String;)Ljava/lang/StringBuilder;"⟩ : MethodName)) hown (mvT hZ (hw _ (List.mem_of_getElem? (i := 61) rfl))) (mvT hZ (hw _ (List.mem_of_getElem? (i := 62) rfl))) (notFace_of_selects (args := #[]) (mvT hZ (hw _ (List.mem_of_getElem? (i := 64) rfl)))) (mvT hZ (hw _ (List.mem_of_getElem? (i := 64) rfl))) (mvT hZ (hw _ (List.mem_of_getElem? (i := 63) rfl))) (by decide) (backOf (W := 1) (rm11 l Z a0 hw [] b1 dn6 za6 zq6 ls7 ld7 (2 : Int32) an6 ((0 + 22) + 10) 2 zc h7 n0 sz7 O7 SC hzc ⟨f7_E_b1, f7_F_b1_value, f7_F_b1_coder, f7_F_b1_count, f7_P_dn6, f7_E_dn6⟩ ⟨Es7, Fv7, Fc7, Bl7⟩ g_b1 gq6 (Ne.symm nl7_dn6.2) hz6 hq6 rfl (by omega)) hZ (hw _ (List.mem_of_getElem? (i := 65) rfl)) (hw _ (List.mem_of_getElem? (i := 42) rfl)) (by decide) (by decide)) q8a q8c (g := (mkF m 29 #[rv r, iv ch, iv cd, rv x] [(.ref ls7), (.ref b1), (.ref r)])) rfl (by rw [hml]; rfl) (Steps.refl _) (argsL := [(.ref ls7)]) (rest := [(.ref r)]) (lenOf pd_24 rfl) rfl (by show 2 * 0 + _ ≤ _; exact Nat.le_of_eq rfl) (hb hby d8_29) (fun _ _ => ⟨rfl, e7, (by decide : (((((((0 + 1) + 1) + 2) + 1) + 2) + 1) + 2) + 1 ≤ _), (by decide : (((((((0 + 4) + 16) + 92) + 400) + 44) + 400) + 44) + 400 ≤ _)⟩)
    dsimp only [Pt.U, Pt.locs, Pt.cells, Pt.slots] at X8 l8 y8 z8 st8 hQ8
    subst l8 y8 z8
    obtain ⟨dn8, za8, an8, zq8, rfl, N8q, Kq8, Sq8, hz8, hq8, gq8, hg8⟩ := hQ8
    have N8 := Fr.app N6 N8q
    have sfn8 : Safe Z EL T7.vm h7 dn8 := by
      rcases hg8 with ⟨-, -, q3⟩ | ⟨-, q2, -⟩
      · rw [q3]; exact sf7_dn6
      · exact Safe.new q2
    have nd8_ld7 : ld7 ≠ dn8 := by
      rcases hg8 with ⟨-, -, q3⟩ | ⟨-, q2, -⟩
      · rw [q3]; exact (Ne.symm nl7_dn6.2)
      · exact Nat.ne_of_lt (Nat.lt_of_lt_of_le (BA.lt Bl7) q2)
    have nd8_td : td ≠ dn8 := by
      rcases hg8 with ⟨-, -, q3⟩ | ⟨-, q2, -⟩
      · rw [q3]; exact nd6_td
      · exact Nat.ne_of_lt (Nat.lt_of_lt_of_le (BA.lt f7_P_td) q2)
    have szo_dn8 : h0.size ≤ dn8 := by
      rcases hg8 with ⟨-, -, q3⟩ | ⟨-, q2, -⟩
      · rw [q3]; exact szo_dn6
      · exact Nat.le_trans (K7).1 q2
    have nq_r_dn6 : r ≠ dn6 := Exa.ne f7_E_r f7_E_dn6 (by decide)
    have nq_x_dn6 : x ≠ dn6 := Exa.ne f7_E_x f7_E_dn6 (by decide)
    have nq_ls7_b1 : ls7 ≠ b1 := Exa.ne Es7 f7_E_b1 (by decide)
    have nq_ld7_b1 : ld7 ≠ b1 := Ne.symm (own_neB f7_E_b1 Bl7 (hw _ (List.mem_of_getElem? (i := 41) rfl)))
    have hs8 : ∀ y ∈ ([b1, dn6] : List Addr), Safe Z EL T7.vm h7 y := (sfS (Safe.exa hZ.alike f7_E_b1 (by decide) (by decide)) (sfS sf7_dn6 sf0))
    have f8_E_r := Exa.keep f7_E_r Kq8
    have f8_U_r := Unt.keep Kq8 (ninS ne_r_b1 (ninS nq_r_dn6 nin0)) f7_U_r
    have f8_F_r_backtrace := Fld.keep f7_F_r_backtrace Kq8 (ninS ne_r_b1 (ninS nq_r_dn6 nin0))
    have f8_F_r_detailMessage := Fld.keep f7_F_r_detailMessage Kq8 (ninS ne_r_b1 (ninS nq_r_dn6 nin0))
    have f8_F_r_cause := Fld.keep f7_F_r_cause Kq8 (ninS ne_r_b1 (ninS nq_r_dn6 nin0))
    have f8_F_r_stackTrace := Fld.keep f7_F_r_stackTrace Kq8 (ninS ne_r_b1 (ninS nq_r_dn6 nin0))
    have f8_F_r_suppressedExceptions := Fld.keep f7_F_r_suppressedExceptions Kq8 (ninS ne_r_b1 (ninS nq_r_dn6 nin0))
    have f8_F_r_channel := Fld.keep f7_F_r_channel Kq8 (ninS ne_r_b1 (ninS nq_r_dn6 nin0))
    have f8_F_r_replyCode := Fld.keep f7_F_r_replyCode Kq8 (ninS ne_r_b1 (ninS nq_r_dn6 nin0))
    have f8_E_x := Exa.keep f7_E_x Kq8
    have f8_F_x_value := Fld.keep f7_F_x_value Kq8 (ninS ne_x_b1 (ninS nq_x_dn6 nin0))
    have f8_F_x_coder := Fld.keep f7_F_x_coder Kq8 (ninS ne_x_b1 (ninS nq_x_dn6 nin0))
    have f8_P_td := BA.keep f7_P_td Kq8 (ninS ne_td_b1 (ninS nd6_td nin0))
    have f8_E_b1 := Exa.keep f7_E_b1 Kq8
    have f8_E_dn6 := Exa.keep f7_E_dn6 Kq8
    have f8_E_ls7 := Exa.keep Es7 Kq8
    have f8_F_ls7_value := Fld.keep Fv7 Kq8 (ninS nq_ls7_b1 (ninS (Ne.symm nl7_dn6.1) nin0))
    have f8_F_ls7_coder := Fld.keep Fc7 Kq8 (ninS nq_ls7_b1 (ninS (Ne.symm nl7_dn6.1) nin0))
    have f8_P_ld7 := BA.keep Bl7 Kq8 (ninS nq_ld7_b1 (ninS (Ne.symm nl7_dn6.2) nin0))
    have sz8 := Nat.le_trans sz7 (Kq8).1
    have K8z := Keep.trans K7 Kq8 (allS (Or.inr szo_b1) (allS (Or.inr szo_dn6) all0))
    have O8 := Old.keep O7 Kq8 (allS g_b1 (allS gq6 all0))
    have hkS := Nat.le_trans hkS (Kq8).1
    have sf8_dn6 := Safe.keep Kq8 hs8 C7.1 sf7_dn6
    have sf8_dn8 := Safe.keep Kq8 hs8 C7.1 sfn8
    have C8 := CHr.trans C7 (CHr.keep Kq8 hs8 C7.1)
    obtain ⟨Ee8, Fe8, Ge8, He8, Be8, Ze8⟩ := Sq8
    have hi8 : (an8 = 34 ∨ an8 = 70) ∧ (((0 + 22) + 10) + 2) ≤ an8 ∧ (((0 + 22) + 10) + 2) ≤ 47 := by rcases hg8 with ⟨q1, q2, -⟩ | ⟨q1, -, kk, q3, q4, q5, q6⟩ <;> omega
    refine Ends.go (fun _ => st8.trans) ?_
    show Ends p.tables e below G (T8.setTop (mkF m 32 #[rv r, iv ch, iv cd, rv x] [(.ref b1), (.ref r)]))
    refine Ends.go (fun _ => XS.iloadN X8.here hx rfl (hb hby d8_32) rfl) ?_
    show Ends p.tables e below G (T8.setTop (mkF m 33 #[rv r, iv ch, iv cd, rv x] [(.int cd), (.ref b1), (.ref r)]))
    obtain ⟨cq9, kq9, q9a, q9b, q9c⟩ := isOf hZ rfl Ee8
    obtain ⟨_, _, ⟨T9, L9, k9, n9⟩, -, X9, ⟨Lc9, hQ9, l9, y9, z9⟩, st9⟩ := X8.virtualBack hx (y := (⟨"java/lang/StringBuilder", "append", "(I)Ljava/lang/StringBuilder;"⟩ : MethodName)) (z := (⟨"java/lang/StringBuilder", "append", "(I)Ljava/lang/StringBuilder;"⟩ : MethodName)) hown (mvT hZ (hw _ (List.mem_of_getElem? (i := 133) rfl))) (mvT hZ (hw _ (List.mem_of_getElem? (i := 134) rfl))) (notFace_of_selects (args := #[]) (mvT hZ (hw _ (List.mem_of_getElem? (i := 136) rfl)))) (mvT hZ (hw _ (List.mem_of_getElem? (i := 136) rfl))) (mvT hZ (hw _ (List.mem_of_getElem? (i := 135) rfl))) (by decide) (backOf (W := 1) (rm24 l Z a0 hw [] b1 dn8 za8 zq8 cd an8 (((0 + 22) + 10) + 2) dst a1 a2 DC1 DC2 zc T8.heap n0 sz8 O8 SC hzc TB1 TB2 ⟨Ee8, Fe8, Ge8, He8, Be8, Ze8⟩ g_b1 gq8 hz8 hq8 (by omega)) hZ (hw _ (List.mem_of_getElem? (i := 137) rfl)) (hw _ (List.mem_of_getElem? (i := 42) rfl)) (by decide) (by decide)) q9a q9c (g := (mkF m 33 #[rv r, iv ch, iv cd, rv x] [(.int cd), (.ref b1), (.ref r)])) rfl (by rw [hml]; rfl) (Steps.refl _) (argsL := [(.int cd)]) (rest := [(.ref r)]) (lenOf pd_25 rfl) rfl (by show 2 * 0 + _ ≤ _; exact Nat.le_of_eq rfl) (hb hby d8_33) (fun _ _ => ⟨rfl, rfl, (by decide : ((((((((0 + 1) + 1) + 2) + 1) + 2) + 1) + 2) + 1) + 1 ≤ _), (by decide : ((((((((0 + 4) + 16) + 92) + 400) + 44) + 400) + 44) + 400) + 400 ≤ _)⟩)
    dsimp only [Pt.U, Pt.locs, Pt.cells, Pt.slots] at X9 l9 y9 z9 st9 hQ9
    subst l9 y9 z9
    obtain ⟨dn9, za9, an9, zq9, kd9, rfl, N9q, Kq9, Sq9, hz9, hq9, gq9, hk9, hg9⟩ := hQ9
    have N9 := Fr.app N8 N9q
    have sfn9 : Safe Z EL T7.vm T8.heap dn9 := by
      rcases hg9 with ⟨-, -, q3⟩ | ⟨-, q2, -⟩
      · rw [q3]; exact sf8_dn8
      · exact Safe.new q2
    have nd9_td : td ≠ dn9 := by
      rcases hg9 with ⟨-, -, q3⟩ | ⟨-, q2, -⟩
      · rw [q3]; exact nd8_td
      · exact Nat.ne_of_lt (Nat.lt_of_lt_of_le (BA.lt f8_P_td) q2)
    have szo_dn9 : h0.size ≤ dn9 := by
      rcases hg9 with ⟨-, -, q3⟩ | ⟨-, q2, -⟩
      · rw [q3]; exact szo_dn8
      · exact Nat.le_trans (K8z).1 q2
    have nq_r_dn8 : r ≠ dn8 := Exa.ne f8_E_r Ze8 (by decide)
    have nq_x_dn8 : x ≠ dn8 := Exa.ne f8_E_x Ze8 (by decide)
    have hs9 : ∀ y ∈ ([b1, dn8] : List Addr), Safe Z EL T7.vm T8.heap y := (sfS (Safe.exa hZ.alike Ee8 (by decide) (by decide)) (sfS sf8_dn8 sf0))
    have f9_E_r := Exa.keep f8_E_r Kq9
    have f9_U_r := Unt.keep Kq9 (ninS ne_r_b1 (ninS nq_r_dn8 nin0)) f8_U_r
    have f9_F_r_backtrace := Fld.keep f8_F_r_backtrace Kq9 (ninS ne_r_b1 (ninS nq_r_dn8 nin0))
    have f9_F_r_detailMessage := Fld.keep f8_F_r_detailMessage Kq9 (ninS ne_r_b1 (ninS nq_r_dn8 nin0))
    have f9_F_r_cause := Fld.keep f8_F_r_cause Kq9 (ninS ne_r_b1 (ninS nq_r_dn8 nin0))
    have f9_F_r_stackTrace := Fld.keep f8_F_r_stackTrace Kq9 (ninS ne_r_b1 (ninS nq_r_dn8 nin0))
    have f9_F_r_suppressedExceptions := Fld.keep f8_F_r_suppressedExceptions Kq9 (ninS ne_r_b1 (ninS nq_r_dn8 nin0))
    have f9_F_r_channel := Fld.keep f8_F_r_channel Kq9 (ninS ne_r_b1 (ninS nq_r_dn8 nin0))
    have f9_F_r_replyCode := Fld.keep f8_F_r_replyCode Kq9 (ninS ne_r_b1 (ninS nq_r_dn8 nin0))
    have f9_E_x := Exa.keep f8_E_x Kq9
    have f9_F_x_value := Fld.keep f8_F_x_value Kq9 (ninS ne_x_b1 (ninS nq_x_dn8 nin0))
    have f9_F_x_coder := Fld.keep f8_F_x_coder Kq9 (ninS ne_x_b1 (ninS nq_x_dn8 nin0))
    have f9_P_td := BA.keep f8_P_td Kq9 (ninS ne_td_b1 (ninS nd8_td nin0))
    have f9_E_b1 := Exa.keep Ee8 Kq9
    have f9_E_dn8 := Exa.keep Ze8 Kq9
    have sz9 := Nat.le_trans sz8 (Kq9).1
    have K9z := Keep.trans K8z Kq9 (allS (Or.inr szo_b1) (allS (Or.inr szo_dn8) all0))
    have O9 := Old.keep O8 Kq9 (allS g_b1 (allS gq8 all0))
    have hkS := Nat.le_trans hkS (Kq9).1
    have sf9_dn8 := Safe.keep Kq9 hs9 C8.1 sf8_dn8
    have sf9_dn9 := Safe.keep Kq9 hs9 C8.1 sfn9
    have C9 := CHr.trans C8 (CHr.keep Kq9 hs9 C8.1)
    obtain ⟨Ee9, Fe9, Ge9, He9, Be9, Ze9⟩ := Sq9
    have hi9 : (an9 = 34 ∨ an9 = 70) ∧ ((((0 + 22) + 10) + 2) + kd9) ≤ an9 ∧ ((((0 + 22) + 10) + 2) + kd9) ≤ 45 := by rcases hg9 with ⟨q1, q2, -⟩ | ⟨q1, -, kk, q3, q4, q5, q6⟩ <;> omega
    refine Ends.go (fun _ => st9.trans) ?_
    show Ends p.tables e below G (T9.setTop (mkF m 36 #[rv r, iv ch, iv cd, rv x] [(.ref b1), (.ref r)]))
    obtain ⟨ls10, T10, h10, ks10, ld10, kl10, X10, e10, E10, hS, hkS, hZ, hown, Es10, Fc10, Fv10, Av10, -, -, cr10, -, nn10, st10⟩ := ldcCH (s := s) (vm0 := T7.vm) X9 hx hZ hown (hw _ (List.mem_of_getElem? (i := 156) rfl)) wS rfl hS hkS hEL (List.mem_of_getElem? (i := 4) rfl) C9.1 (z := (1 : Int32)) ⟨by decide +kernel, rfl⟩ (by decide) (by decide +kernel) (g := (mkF m 36 #[rv r, iv ch, iv cd, rv x] [(.ref b1), (.ref r)])) rfl (hb hby d8_36) (n := 40) (by decide +kernel) (by decide) (by decide) (by decide)
    have sf10_dn9 := CHr.safe cr10 (BA.lt Be9) sf9_dn9
    have nl10_dn9 := nn10 _ sf10_dn9
    have f10_E_r := f9_E_r.ext E10
    have f10_U_r := f9_U_r.ext E10
    have f10_F_r_backtrace := f9_F_r_backtrace.ext E10
    have f10_F_r_detailMessage := f9_F_r_detailMessage.ext E10
    have f10_F_r_cause := f9_F_r_cause.ext E10
    have f10_F_r_stackTrace := f9_F_r_stackTrace.ext E10
    have f10_F_r_suppressedExceptions := f9_F_r_suppressedExceptions.ext E10
    have f10_F_r_channel := f9_F_r_channel.ext E10
    have f10_F_r_replyCode := f9_F_r_replyCode.ext E10
    have f10_E_x := f9_E_x.ext E10
    have f10_F_x_value := f9_F_x_value.ext E10
    have f10_F_x_coder := f9_F_x_coder.ext E10
    have f10_P_td := BA.ext f9_P_td E10
    have f10_E_b1 := Ee9.ext E10
    have f10_F_b1_value := Fe9.ext E10
    have f10_F_b1_coder := Ge9.ext E10
    have f10_F_b1_count := He9.ext E10
    have f10_P_dn9 := BA.ext Be9 E10
    have f10_E_dn9 := Ze9.ext E10
    have sz10 := Nat.le_trans sz9 E10.1
    have K10 := Keep.ext K9z E10
    have O10 := Old.ext O9 E10
    have C10 := CHr.trans C9 cr10
    have Bl10 : BA Z h10 ld10 (1 : Int32) := ⟨_, _, Av10⟩
    refine Ends.go (fun _ => st10 _) ?_
    show Ends p.tables e below G (T10.setTop (mkF m 38 #[rv r, iv ch, iv cd, rv x] [(.ref ls10), (.ref b1), (.ref r)]))
    obtain ⟨cq11, kq11, q11a, q11b, q11c⟩ := isOf hZ e10 f10_E_b1
    obtain ⟨_, _, ⟨T11, L11, k11, n11⟩, -, X11, ⟨Lc11, hQ11, l11, y11, z11⟩, st11⟩ := X10.virtualBack hx (y := (⟨"java/lang/StringBuilder", "append", "(Ljava/lang/String;)Ljava/lang/StringBuilder;"⟩ : MethodName)) (z := (⟨"java/lang/StringBuilder", "append", "(Ljava/lang/String;)Ljava/lang/StringBuilder;"⟩ : MethodName)) hown (mvT hZ (hw _ (List.mem_of_getElem? (i := 61) rfl))) (mvT hZ (hw _ (List.mem_of_getElem? (i := 62) rfl))) (notFace_of_selects (args := #[]) (mvT hZ (hw _ (List.mem_of_getElem? (i := 64) rfl)))) (mvT hZ (hw _ (List.mem_of_getElem? (i := 64) rfl))) (mvT hZ (hw _ (List.mem_of_getElem? (i := 63) rfl))) (by decide) (backOf (W := 1) (rm11 l Z a0 hw [] b1 dn9 za9 zq9 ls10 ld10 (1 : Int32) an9 ((((0 + 22) + 10) + 2) + kd9) 1 zc h10 n0 sz10 O10 SC hzc ⟨f10_E_b1, f10_F_b1_value, f10_F_b1_coder, f10_F_b1_count, f10_P_dn9, f10_E_dn9⟩ ⟨Es10, Fv10, Fc10, Bl10⟩ g_b1 gq9 (Ne.symm nl10_dn9.2) hz9 hq9 rfl (by omega)) hZ (hw _ (List.mem_of_getElem? (i := 65) rfl)) (hw _ (List.mem_of_getElem? (i := 42) rfl)) (by decide) (by decide)) q11a q11c (g := (mkF m 38 #[rv r, iv ch, iv cd, rv x] [(.ref ls10), (.ref b1), (.ref r)])) rfl (by rw [hml]; rfl) (Steps.refl _) (argsL := [(.ref ls10)]) (rest := [(.ref r)]) (lenOf pd_24 rfl) rfl (by show 2 * 0 + _ ≤ _; exact Nat.le_of_eq rfl) (hb hby d8_38) (fun _ _ => ⟨rfl, e10, (by decide : ((((((((((0 + 1) + 1) + 2) + 1) + 2) + 1) + 2) + 1) + 1) + 2) + 1 ≤ _), (by decide : ((((((((((0 + 4) + 16) + 92) + 400) + 44) + 400) + 44) + 400) + 400) + 44) + 400 ≤ _)⟩)
    dsimp only [Pt.U, Pt.locs, Pt.cells, Pt.slots] at X11 l11 y11 z11 st11 hQ11
    subst l11 y11 z11
    obtain ⟨dn11, za11, an11, zq11, rfl, N11q, Kq11, Sq11, hz11, hq11, gq11, hg11⟩ := hQ11
    have N11 := Fr.app N9 N11q
    have sfn11 : Safe Z EL T10.vm h10 dn11 := by
      rcases hg11 with ⟨-, -, q3⟩ | ⟨-, q2, -⟩
      · rw [q3]; exact sf10_dn9
      · exact Safe.new q2
    have nd11_ld10 : ld10 ≠ dn11 := by
      rcases hg11 with ⟨-, -, q3⟩ | ⟨-, q2, -⟩
      · rw [q3]; exact (Ne.symm nl10_dn9.2)
      · exact Nat.ne_of_lt (Nat.lt_of_lt_of_le (BA.lt Bl10) q2)
    have nd11_td : td ≠ dn11 := by
      rcases hg11 with ⟨-, -, q3⟩ | ⟨-, q2, -⟩
      · rw [q3]; exact nd9_td
      · exact Nat.ne_of_lt (Nat.lt_of_lt_of_le (BA.lt f10_P_td) q2)
    have szo_dn11 : h0.size ≤ dn11 := by
      rcases hg11 with ⟨-, -, q3⟩ | ⟨-, q2, -⟩
      · rw [q3]; exact szo_dn9
      · exact Nat.le_trans (K10).1 q2
    have nq_r_dn9 : r ≠ dn9 := Exa.ne f10_E_r f10_E_dn9 (by decide)
    have nq_x_dn9 : x ≠ dn9 := Exa.ne f10_E_x f10_E_dn9 (by decide)
    have nq_ls10_b1 : ls10 ≠ b1 := Exa.ne Es10 f10_E_b1 (by decide)
    have nq_ld10_b1 : ld10 ≠ b1 := Ne.symm (own_neB f10_E_b1 Bl10 (hw _ (List.mem_of_getElem? (i := 41) rfl)))
    have hs11 : ∀ y ∈ ([b1, dn9] : List Addr), Safe Z EL T10.vm h10 y := (sfS (Safe.exa hZ.alike f10_E_b1 (by decide) (by decide)) (sfS sf10_dn9 sf0))
    have f11_E_r := Exa.keep f10_E_r Kq11
    have f11_U_r := Unt.keep Kq11 (ninS ne_r_b1 (ninS nq_r_dn9 nin0)) f10_U_r
    have f11_F_r_backtrace := Fld.keep f10_F_r_backtrace Kq11 (ninS ne_r_b1 (ninS nq_r_dn9 nin0))
    have f11_F_r_detailMessage := Fld.keep f10_F_r_detailMessage Kq11 (ninS ne_r_b1 (ninS nq_r_dn9 nin0))
    have f11_F_r_cause := Fld.keep f10_F_r_cause Kq11 (ninS ne_r_b1 (ninS nq_r_dn9 nin0))
    have f11_F_r_stackTrace := Fld.keep f10_F_r_stackTrace Kq11 (ninS ne_r_b1 (ninS nq_r_dn9 nin0))
    have f11_F_r_suppressedExceptions := Fld.keep f10_F_r_suppressedExceptions Kq11 (ninS ne_r_b1 (ninS nq_r_dn9 nin0))
    have f11_F_r_channel := Fld.keep f10_F_r_channel Kq11 (ninS ne_r_b1 (ninS nq_r_dn9 nin0))
    have f11_F_r_replyCode := Fld.keep f10_F_r_replyCode Kq11 (ninS ne_r_b1 (ninS nq_r_dn9 nin0))
    have f11_E_x := Exa.keep f10_E_x Kq11
    have f11_F_x_value := Fld.keep f10_F_x_value Kq11 (ninS ne_x_b1 (ninS nq_x_dn9 nin0))
    have f11_F_x_coder := Fld.keep f10_F_x_coder Kq11 (ninS ne_x_b1 (ninS nq_x_dn9 nin0))
    have f11_P_td := BA.keep f10_P_td Kq11 (ninS ne_td_b1 (ninS nd9_td nin0))
    have f11_E_b1 := Exa.keep f10_E_b1 Kq11
    have f11_E_dn9 := Exa.keep f10_E_dn9 Kq11
    have f11_E_ls10 := Exa.keep Es10 Kq11
    have f11_F_ls10_value := Fld.keep Fv10 Kq11 (ninS nq_ls10_b1 (ninS (Ne.symm nl10_dn9.1) nin0))
    have f11_F_ls10_coder := Fld.keep Fc10 Kq11 (ninS nq_ls10_b1 (ninS (Ne.symm nl10_dn9.1) nin0))
    have f11_P_ld10 := BA.keep Bl10 Kq11 (ninS nq_ld10_b1 (ninS (Ne.symm nl10_dn9.2) nin0))
    have sz11 := Nat.le_trans sz10 (Kq11).1
    have K11z := Keep.trans K10 Kq11 (allS (Or.inr szo_b1) (allS (Or.inr szo_dn9) all0))
    have O11 := Old.keep O10 Kq11 (allS g_b1 (allS gq9 all0))
    have hkS := Nat.le_trans hkS (Kq11).1
    have sf11_dn9 := Safe.keep Kq11 hs11 C10.1 sf10_dn9
    have sf11_dn11 := Safe.keep Kq11 hs11 C10.1 sfn11
    have C11 := CHr.trans C10 (CHr.keep Kq11 hs11 C10.1)
    obtain ⟨Ee11, Fe11, Ge11, He11, Be11, Ze11⟩ := Sq11
    have hi11 : (an11 = 34 ∨ an11 = 70) ∧ (((((0 + 22) + 10) + 2) + kd9) + 1) ≤ an11 ∧ (((((0 + 22) + 10) + 2) + kd9) + 1) ≤ 47 := by rcases hg11 with ⟨q1, q2, -⟩ | ⟨q1, -, kk, q3, q4, q5, q6⟩ <;> omega
    refine Ends.go (fun _ => st11.trans) ?_
    show Ends p.tables e below G (T11.setTop (mkF m 41 #[rv r, iv ch, iv cd, rv x] [(.ref b1), (.ref r)]))
    refine Ends.go (fun _ => XS.aloadN X11.here hx rfl (hb hby d8_41) rfl rfl) ?_
    show Ends p.tables e below G (T11.setTop (mkF m 42 #[rv r, iv ch, iv cd, rv x] [(.ref x), (.ref b1), (.ref r)]))
    obtain ⟨cq12, kq12, q12a, q12b, q12c⟩ := isOf hZ rfl Ee11
    obtain ⟨_, _, ⟨T12, L12, k12, n12⟩, -, X12, ⟨Lc12, hQ12, l12, y12, z12⟩, st12⟩ := X11.virtualBack hx (y := (⟨"java/lang/StringBuilder", "append", "(Ljava/lang/String;)Ljava/lang/StringBuilder;"⟩ : MethodName)) (z := (⟨"java/lang/StringBuilder", "append", "(Ljava/lang/String;)Ljava/lang/StringBuilder;"⟩ : MethodName)) hown (mvT hZ (hw _ (List.mem_of_getElem? (i := 61) rfl))) (mvT hZ (hw _ (List.mem_of_getElem? (i := 62) rfl))) (notFace_of_selects (args := #[]) (mvT hZ (hw _ (List.mem_of_getElem? (i := 64) rfl)))) (mvT hZ (hw _ (List.mem_of_getElem? (i := 64) rfl))) (mvT hZ (hw _ (List.mem_of_getElem? (i := 63) rfl))) (by decide) (backOf (W := 1) (rm11 l Z a0 hw [] b1 dn11 za11 zq11 x td (1 : Int32) an11 (((((0 + 22) + 10) + 2) + kd9) + 1) 1 zc T11.heap n0 sz11 O11 SC hzc ⟨Ee11, Fe11, Ge11, He11, Be11, Ze11⟩ ⟨f11_E_x, f11_F_x_value, f11_F_x_coder, f11_P_td⟩ g_b1 gq11 nd11_td hz11 hq11 rfl (by omega)) hZ (hw _ (List.mem_of_getElem? (i := 65) rfl)) (hw _ (List.mem_of_getElem? (i := 42) rfl)) (by decide) (by decide)) q12a q12c (g := (mkF m 42 #[rv r, iv ch, iv cd, rv x] [(.ref x), (.ref b1), (.ref r)])) rfl (by rw [hml]; rfl) (Steps.refl _) (argsL := [(.ref x)]) (rest := [(.ref r)]) (lenOf pd_24 rfl) rfl (by show 2 * 0 + _ ≤ _; exact Nat.le_of_eq rfl) (hb hby d8_42) (fun _ _ => ⟨rfl, rfl, (by decide : (((((((((((0 + 1) + 1) + 2) + 1) + 2) + 1) + 2) + 1) + 1) + 2) + 1) + 1 ≤ _), (by decide : (((((((((((0 + 4) + 16) + 92) + 400) + 44) + 400) + 44) + 400) + 400) + 44) + 400) + 400 ≤ _)⟩)
    dsimp only [Pt.U, Pt.locs, Pt.cells, Pt.slots] at X12 l12 y12 z12 st12 hQ12
    subst l12 y12 z12
    obtain ⟨dn12, za12, an12, zq12, rfl, N12q, Kq12, Sq12, hz12, hq12, gq12, hg12⟩ := hQ12
    have N12 := Fr.app N11 N12q
    have sfn12 : Safe Z EL T10.vm T11.heap dn12 := by
      rcases hg12 with ⟨-, -, q3⟩ | ⟨-, q2, -⟩
      · rw [q3]; exact sf11_dn11
      · exact Safe.new q2
    have nd12_td : td ≠ dn12 := by
      rcases hg12 with ⟨-, -, q3⟩ | ⟨-, q2, -⟩
      · rw [q3]; exact nd11_td
      · exact Nat.ne_of_lt (Nat.lt_of_lt_of_le (BA.lt f11_P_td) q2)
    have szo_dn12 : h0.size ≤ dn12 := by
      rcases hg12 with ⟨-, -, q3⟩ | ⟨-, q2, -⟩
      · rw [q3]; exact szo_dn11
      · exact Nat.le_trans (K11z).1 q2
    have nq_r_dn11 : r ≠ dn11 := Exa.ne f11_E_r Ze11 (by decide)
    have nq_x_dn11 : x ≠ dn11 := Exa.ne f11_E_x Ze11 (by decide)
    have hs12 : ∀ y ∈ ([b1, dn11] : List Addr), Safe Z EL T10.vm T11.heap y := (sfS (Safe.exa hZ.alike Ee11 (by decide) (by decide)) (sfS sf11_dn11 sf0))
    have f12_E_r := Exa.keep f11_E_r Kq12
    have f12_U_r := Unt.keep Kq12 (ninS ne_r_b1 (ninS nq_r_dn11 nin0)) f11_U_r
    have f12_F_r_backtrace := Fld.keep f11_F_r_backtrace Kq12 (ninS ne_r_b1 (ninS nq_r_dn11 nin0))
    have f12_F_r_detailMessage := Fld.keep f11_F_r_detailMessage Kq12 (ninS ne_r_b1 (ninS nq_r_dn11 nin0))
    have f12_F_r_cause := Fld.keep f11_F_r_cause Kq12 (ninS ne_r_b1 (ninS nq_r_dn11 nin0))
    have f12_F_r_stackTrace := Fld.keep f11_F_r_stackTrace Kq12 (ninS ne_r_b1 (ninS nq_r_dn11 nin0))
    have f12_F_r_suppressedExceptions := Fld.keep f11_F_r_suppressedExceptions Kq12 (ninS ne_r_b1 (ninS nq_r_dn11 nin0))
    have f12_F_r_channel := Fld.keep f11_F_r_channel Kq12 (ninS ne_r_b1 (ninS nq_r_dn11 nin0))
    have f12_F_r_replyCode := Fld.keep f11_F_r_replyCode Kq12 (ninS ne_r_b1 (ninS nq_r_dn11 nin0))
    have f12_E_x := Exa.keep f11_E_x Kq12
    have f12_F_x_value := Fld.keep f11_F_x_value Kq12 (ninS ne_x_b1 (ninS nq_x_dn11 nin0))
    have f12_F_x_coder := Fld.keep f11_F_x_coder Kq12 (ninS ne_x_b1 (ninS nq_x_dn11 nin0))
    have f12_P_td := BA.keep f11_P_td Kq12 (ninS ne_td_b1 (ninS nd11_td nin0))
    have f12_E_b1 := Exa.keep Ee11 Kq12
    have f12_E_dn11 := Exa.keep Ze11 Kq12
    have sz12 := Nat.le_trans sz11 (Kq12).1
    have K12z := Keep.trans K11z Kq12 (allS (Or.inr szo_b1) (allS (Or.inr szo_dn11) all0))
    have O12 := Old.keep O11 Kq12 (allS g_b1 (allS gq11 all0))
    have hkS := Nat.le_trans hkS (Kq12).1
    have sf12_dn11 := Safe.keep Kq12 hs12 C11.1 sf11_dn11
    have sf12_dn12 := Safe.keep Kq12 hs12 C11.1 sfn12
    have C12 := CHr.trans C11 (CHr.keep Kq12 hs12 C11.1)
    obtain ⟨Ee12, Fe12, Ge12, He12, Be12, Ze12⟩ := Sq12
    have hi12 : (an12 = 34 ∨ an12 = 70) ∧ ((((((0 + 22) + 10) + 2) + kd9) + 1) + 1) ≤ an12 ∧ ((((((0 + 22) + 10) + 2) + kd9) + 1) + 1) ≤ 47 := by rcases hg12 with ⟨q1, q2, -⟩ | ⟨q1, -, kk, q3, q4, q5, q6⟩ <;> omega
    refine Ends.go (fun _ => st12.trans) ?_
    show Ends p.tables e below G (T12.setTop (mkF m 45 #[rv r, iv ch, iv cd, rv x] [(.ref b1), (.ref r)]))
    obtain ⟨cq13, kq13, q13a, q13b, q13c⟩ := isOf hZ rfl Ee12
    obtain ⟨_, _, ⟨T13, L13, k13, n13⟩, -, X13, ⟨Lc13, hQ13, l13, y13, z13⟩, st13⟩ := X12.virtualBack hx (y := (⟨"java/lang/StringBuilder", "toString", "()Ljava/lang/String;"⟩ : MethodName)) (z := (⟨"java/lang/StringBuilder", "toString", "()Ljava/lang/String;"⟩ : MethodName)) hown (mvT hZ (hw _ (List.mem_of_getElem? (i := 157) rfl))) (mvT hZ (hw _ (List.mem_of_getElem? (i := 158) rfl))) (notFace_of_selects (args := #[]) (mvT hZ (hw _ (List.mem_of_getElem? (i := 160) rfl)))) (mvT hZ (hw _ (List.mem_of_getElem? (i := 160) rfl))) (mvT hZ (hw _ (List.mem_of_getElem? (i := 159) rfl))) (by decide) (backOf (W := 1) (rm29 l Z a0 hw [] b1 dn12 za12 zq12 an12 ((((((0 + 22) + 10) + 2) + kd9) + 1) + 1) zc T12.heap n0 sz12 O12 SC hzc ⟨Ee12, Fe12, Ge12, He12, Be12, Ze12⟩ hz12 hq12 (by omega)) hZ (hw _ (List.mem_of_getElem? (i := 161) rfl)) (hw _ (List.mem_of_getElem? (i := 42) rfl)) (by decide) (by decide)) q13a q13c (g := (mkF m 45 #[rv r, iv ch, iv cd, rv x] [(.ref b1), (.ref r)])) rfl (by rw [hml]; rfl) (Steps.refl _) (argsL := []) (rest := [(.ref r)]) (lenOf pd_26 rfl) rfl (by show 2 * 0 + _ ≤ _; exact Nat.le_of_eq rfl) (hb hby d8_45) (fun _ _ => ⟨rfl, rfl, (by decide : ((((((((((((0 + 1) + 1) + 2) + 1) + 2) + 1) + 2) + 1) + 1) + 2) + 1) + 1) + 2 ≤ _), (by decide : ((((((((((((0 + 4) + 16) + 92) + 400) + 44) + 400) + 44) + 400) + 400) + 44) + 400) + 400) + 154 ≤ _)⟩)
    dsimp only [Pt.U, Pt.locs, Pt.cells, Pt.slots] at X13 l13 y13 z13 st13 hQ13
    subst l13 y13 z13
    obtain ⟨xs13, rfl, N13q, Kq13⟩ := hQ13
    have N13 := Fr.app N12 N13q
    have hs13 : ∀ y ∈ ([] : List Addr), Safe Z EL T10.vm T12.heap y := sf0
    have f13_E_r := Exa.keep f12_E_r Kq13
    have f13_U_r := Unt.keep Kq13 nin0 f12_U_r
    have f13_F_r_backtrace := Fld.keep f12_F_r_backtrace Kq13 nin0
    have f13_F_r_detailMessage := Fld.keep f12_F_r_detailMessage Kq13 nin0
    have f13_F_r_cause := Fld.keep f12_F_r_cause Kq13 nin0
    have f13_F_r_stackTrace := Fld.keep f12_F_r_stackTrace Kq13 nin0
    have f13_F_r_suppressedExceptions := Fld.keep f12_F_r_suppressedExceptions Kq13 nin0
    have f13_F_r_channel := Fld.keep f12_F_r_channel Kq13 nin0
    have f13_F_r_replyCode := Fld.keep f12_F_r_replyCode Kq13 nin0
    have f13_E_x := Exa.keep f12_E_x Kq13
    have f13_F_x_value := Fld.keep f12_F_x_value Kq13 nin0
    have f13_F_x_coder := Fld.keep f12_F_x_coder Kq13 nin0
    have f13_P_td := BA.keep f12_P_td Kq13 nin0
    have f13_E_b1 := Exa.keep Ee12 Kq13
    have f13_F_b1_value := Fld.keep Fe12 Kq13 nin0
    have f13_F_b1_coder := Fld.keep Ge12 Kq13 nin0
    have f13_F_b1_count := Fld.keep He12 Kq13 nin0
    have f13_P_dn12 := BA.keep Be12 Kq13 nin0
    have f13_E_dn12 := Exa.keep Ze12 Kq13
    have sz13 := Nat.le_trans sz12 (Kq13).1
    have K13z := Keep.trans K12z Kq13 all0
    have O13 := Old.keep O12 Kq13 all0
    have hkS := Nat.le_trans hkS (Kq13).1
    have sf13_dn12 := Safe.keep Kq13 hs13 C12.1 sf12_dn12
    have C13 := CHr.trans C12 (CHr.keep Kq13 hs13 C12.1)
    refine Ends.go (fun _ => st13.trans) ?_
    show Ends p.tables e below G (T13.setTop (mkF m 48 #[rv r, iv ch, iv cd, rv x] [(.ref xs13), (.ref r)]))
    have hTKv := Vm.MethodsKnown.alikeC hS.1.alike hTK
    have hBlv := Vm.FramesKnown.alikeC hS.1.alike hBelow
    obtain ⟨_, _, ⟨T14, L14, k14, n14⟩, -, X14, ⟨Lc14, hQ14, l14, y14, z14⟩, st14⟩ := X13.specialBack hx (y := (⟨"java/io/IOException", "<init>", "(Ljava/lang/String;)V"⟩ : MethodName)) rfl hown (mvT hZ (hw _ (List.mem_of_getElem? (i := 192) rfl))) (mvT hZ (hw _ (List.mem_of_getElem? (i := 193) rfl))) (mvT hZ (hw _ (List.mem_of_getElem? (i := 196) rfl))) (by decide) (backOfKL (W := 0) (rm38 l hl_ Z a0 hw [] r xs13 uU uS T13.heap n0 sz13 O13 SU SS f13_E_r f13_U_r f13_F_r_cause f13_F_r_stackTrace f13_F_r_suppressedExceptions f13_F_r_backtrace f13_F_r_detailMessage g_r) hZ (hw _ (List.mem_of_getElem? (i := 196) rfl)) (hw _ (List.mem_of_getElem? (i := 195) rfl)) (by decide) (by decide) hTKv hBlv) (g := (mkF m 48 #[rv r, iv ch, iv cd, rv x] [(.ref xs13), (.ref r)])) rfl (by rw [hml]; rfl) (Steps.refl _) (a := r) (argsL := [(.ref xs13)]) (rest := []) (lenOf pd_8 rfl) rfl (by show 2 * 0 + _ ≤ _; exact Nat.le_of_eq rfl) (hb hby d8_48) (fun _ _ => ⟨rfl, rfl, (by decide : (((((((((((((0 + 1) + 1) + 2) + 1) + 2) + 1) + 2) + 1) + 1) + 2) + 1) + 1) + 2) + 1 ≤ _), (by decide : (((((((((((((0 + 4) + 16) + 92) + 400) + 44) + 400) + 44) + 400) + 400) + 44) + 400) + 400) + 154) + 2752 ≤ _)⟩)
    dsimp only [Pt.U, Pt.locs, Pt.cells, Pt.slots] at X14 l14 y14 z14 st14 hQ14
    subst l14 y14 z14
    obtain ⟨rfl, N14q, Kq14⟩ := hQ14
    have N14 := Fr.app N13 N14q
    have fk1 := Fld.kp Kq14 f13_F_r_channel (Or.inr (own_six_ne hw (Or.inr (hw _ (List.mem_of_getElem? (i := 247) rfl))) (ty := .boolean) (by decide) (by decide)))
    have fk2 := Fld.kp Kq14 f13_F_r_replyCode (Or.inr (own_six_ne hw (Or.inr (hw _ (List.mem_of_getElem? (i := 249) rfl))) (ty := .int) (by decide) (by decide)))
    have Kk14 := keep_of_kp Kq14
    have hs14 : ∀ y ∈ ([r] : List Addr), Safe Z EL T10.vm T13.heap y := (sfS (Safe.exa hZ.alike f13_E_r (by decide) (by decide)) sf0)
    have f14_E_r := Exa.keep f13_E_r Kk14
    have sz14 := Nat.le_trans sz13 (Kk14).1
    have K14z := Keep.trans K13z Kk14 (allS (Or.inl (List.mem_of_getElem? (i := 0) rfl)) all0)
    have O14 := Old.keep O13 Kk14 (allS g_r all0)
    have hkS := Nat.le_trans hkS (Kk14).1
    have C14 := CHr.trans C13 (CHr.keep Kk14 hs14 C13.1)
    refine Ends.go (fun _ => st14.trans) ?_
    show Ends p.tables e below G (T14.setTop (mkF m 51 #[rv r, iv ch, iv cd, rv x] []))
    refine Ends.go (fun _ => XS.aloadN X14.here hx rfl (hb hby d8_51) rfl rfl) ?_
    show Ends p.tables e below G (T14.setTop (mkF m 52 #[rv r, iv ch, iv cd, rv x] [(.ref r)]))
    refine Ends.go (fun _ => XS.iloadN X14.here hx rfl (hb hby d8_52) rfl) ?_
    show Ends p.tables e below G (T14.setTop (mkF m 53 #[rv r, iv ch, iv cd, rv x] [(.int ch), (.ref r)]))
    obtain ⟨T15, h15, X15, e15, W15, st15⟩ := putFN X14 hx hZ hown (hw _ (List.mem_of_getElem? (i := 246) rfl)) Via.refl rfl fk1 f14_E_r (Or.inr ⟨(hw _ (List.mem_of_getElem? (i := 247) rfl)), rfl, hnm⟩) (hw _ (List.mem_of_getElem? (i := 35) rfl)) (ty := .boolean) (v' := (.int (nar .boolean ch))) (by decide) rfl (fits_nar_bool _) (g := (mkF m 53 #[rv r, iv ch, iv cd, rv x] [(.int ch), (.ref r)])) rfl rfl (hb hby d8_53)
    have sfo15 : Safe Z EL T10.vm _ r := (Safe.exa hZ.alike f14_E_r (by decide) (by decide))
    have f15_E_r := f14_E_r.wr W15
    have f15_F_r_channel := fk1.same W15
    have f15_F_r_replyCode := fk2.other W15 (Or.inr (slot_ne (Or.inr (hw _ (List.mem_of_getElem? (i := 249) rfl))) (Or.inr (hw _ (List.mem_of_getElem? (i := 247) rfl))) (by decide) (t := .int) (t' := .boolean) (by decide) (by decide)))
    have sz15 := Nat.le_trans sz14 (Nat.le_of_eq W15.size.symm)
    have K15 := Keep.wr K14z W15 (Or.inl (List.mem_of_getElem? (i := 0) rfl))
    have N15 := Fr.snoc X15 N14 g_r
    have O15 := Old.wr O14 W15 g_r
    have hkS := Nat.le_trans hkS (Nat.le_of_eq W15.size.symm)
    have C15 := CHr.trans C14 (CHr.wr W15 sfo15 C14.1)
    refine Ends.go (fun _ => st15 _) ?_
    show Ends p.tables e below G (T15.setTop (mkF m 56 #[rv r, iv ch, iv cd, rv x] []))
    refine Ends.go (fun _ => XS.aloadN X15.here hx rfl (hb hby d8_56) rfl rfl) ?_
    show Ends p.tables e below G (T15.setTop (mkF m 57 #[rv r, iv ch, iv cd, rv x] [(.ref r)]))
    refine Ends.go (fun _ => XS.iloadN X15.here hx rfl (hb hby d8_57) rfl) ?_
    show Ends p.tables e below G (T15.setTop (mkF m 58 #[rv r, iv ch, iv cd, rv x] [(.int cd), (.ref r)]))
    obtain ⟨T16, h16, X16, e16, W16, st16⟩ := putF X15 hx hZ hown (host := "") (Or.inl (hw _ (List.mem_of_getElem? (i := 248) rfl))) Via.refl e15 f15_F_r_replyCode f15_E_r (Or.inr ⟨(hw _ (List.mem_of_getElem? (i := 249) rfl)), rfl, hnm⟩) (hw _ (List.mem_of_getElem? (i := 35) rfl)) (ty := .int) (by decide) rfl rfl (g := (mkF m 58 #[rv r, iv ch, iv cd, rv x] [(.int cd), (.ref r)])) rfl rfl (hb hby d8_58)
    have sfo16 : Safe Z EL T10.vm _ r := (Safe.exa hZ.alike f15_E_r (by decide) (by decide))
    have f16_E_r := f15_E_r.wr W16
    have f16_F_r_channel := f15_F_r_channel.other W16 (Or.inr (slot_ne (Or.inr (hw _ (List.mem_of_getElem? (i := 247) rfl))) (Or.inr (hw _ (List.mem_of_getElem? (i := 249) rfl))) (by decide) (t := .boolean) (t' := .int) (by decide) (by decide)))
    have f16_F_r_replyCode := f15_F_r_replyCode.same W16
    have sz16 := Nat.le_trans sz15 (Nat.le_of_eq W16.size.symm)
    have K16 := Keep.wr K15 W16 (Or.inl (List.mem_of_getElem? (i := 0) rfl))
    have N16 := Fr.snoc X16 N15 g_r
    have O16 := Old.wr O15 W16 g_r
    have hkS := Nat.le_trans hkS (Nat.le_of_eq W16.size.symm)
    have C16 := CHr.trans C15 (CHr.wr W16 sfo16 C15.1)
    refine Ends.go (fun _ => st16 _) ?_
    show Ends p.tables e below G (T16.setTop (mkF m 61 #[rv r, iv ch, iv cd, rv x] []))
    have fch := f16_F_r_channel
    rw [own_nar01 hch] at fch
    refine own_finW X16 hS (by rw [e16]; exact hkS) hx Bd.returns Bd.notSynchronized (hb hby d8_61) (Q := (Q8 Z r ch cd x td dst a1 a2 DC1 DC2 uU uS zc h0 n0)) (P := fun vm_ hp_ => CHr Z EL s.vm s.heap vm_ hp_) hG (by decide) (by decide) ?_ ?_
    · show (Q8 Z r ch cd x td dst a1 a2 DC1 DC2 uU uS zc h0 n0) _ T16.heap _
      rw [e16]
      exact ⟨rfl, N16, K16, f16_E_r, fch, f16_F_r_replyCode⟩
    · show CHr Z EL s.vm s.heap T16.vm T16.heap
      rw [e16, hh]
      exact CHr.trans C16 (CHv.at X16 hZ hEL C16.1)
  · refine Ends.go (fun _ => XS.ifNo X4.here hx rfl (hb hby d8_14) rfl ((if0 _ _).trans (feq (hch0 : ¬ (ch = (0 : Int32)))).1)) ?_
    show Ends p.tables e below G (T4.setTop (mkF m 17 #[rv r, iv ch, iv cd, rv x] [(.ref b1), (.ref r)]))
    obtain ⟨ls17, T17, h17, ks17, ld17, kl17, X17, e17, E17, hS, hkS, hZ, hown, Es17, Fc17, Fv17, Av17, -, -, cr17, -, nn17, st17⟩ := ldcCH (s := s) (vm0 := T3.vm) X4 hx hZ hown (hw _ (List.mem_of_getElem? (i := 258) rfl)) wS rfl hS hkS hEL (List.mem_of_getElem? (i := 1) rfl) C4.1 (z := (7 : Int32)) ⟨by decide +kernel, rfl⟩ (by decide) (by decide +kernel) (g := (mkF m 17 #[rv r, iv ch, iv cd, rv x] [(.ref b1), (.ref r)])) rfl (hb hby d8_17) (n := 40) (by decide +kernel) (by decide) (by decide) (by decide)
    have sf17_dn4 := CHr.safe cr17 (BA.lt Be4) sf4_dn4
    have nl17_dn4 := nn17 _ sf17_dn4
    have f17_E_r := f4_E_r.ext E17
    have f17_U_r := f4_U_r.ext E17
    have f17_F_r_backtrace := f4_F_r_backtrace.ext E17
    have f17_F_r_detailMessage := f4_F_r_detailMessage.ext E17
    have f17_F_r_cause := f4_F_r_cause.ext E17
    have f17_F_r_stackTrace := f4_F_r_stackTrace.ext E17
    have f17_F_r_suppressedExceptions := f4_F_r_suppressedExceptions.ext E17
    have f17_F_r_channel := f4_F_r_channel.ext E17
    have f17_F_r_replyCode := f4_F_r_replyCode.ext E17
    have f17_E_x := f4_E_x.ext E17
    have f17_F_x_value := f4_F_x_value.ext E17
    have f17_F_x_coder := f4_F_x_coder.ext E17
    have f17_P_td := BA.ext f4_P_td E17
    have f17_E_b1 := Ee4.ext E17
    have f17_F_b1_value := Fe4.ext E17
    have f17_F_b1_coder := Ge4.ext E17
    have f17_F_b1_count := He4.ext E17
    have f17_P_dn4 := BA.ext Be4 E17
    have f17_E_dn4 := Ze4.ext E17
    have sz17 := Nat.le_trans sz4 E17.1
    have K17 := Keep.ext K4z E17
    have O17 := Old.ext O4 E17
    have C17 := CHr.trans C4 cr17
    have Bl17 : BA Z h17 ld17 (7 : Int32) := ⟨_, _, Av17⟩
    refine Ends.go (fun _ => st17 _) ?_
    show Ends p.tables e below G (T17.setTop (mkF m 19 #[rv r, iv ch, iv cd, rv x] [(.ref ls17), (.ref b1), (.ref r)]))
    refine Ends.go (fun _ => XS.goto X17.here hx rfl (pc0 := 19) (pc' := 24) rfl (hb hby d8_19) (by decide) (by decide)) ?_
    show Ends p.tables e below G (T17.setTop (mkF m 24 #[rv r, iv ch, iv cd, rv x] [(.ref ls17), (.ref b1), (.ref r)]))
    obtain ⟨cq18, kq18, q18a, q18b, q18c⟩ := isOf hZ e17 f17_E_b1
    obtain ⟨_, _, ⟨T18, L18, k18, n18⟩, -, X18, ⟨Lc18, hQ18, l18, y18, z18⟩, st18⟩ := X17.virtualBack hx (y := (⟨"java/lang/StringBuilder", "append", "(Ljava/lang/String;)Ljava/lang/StringBuilder;"⟩ : MethodName)) (z := (⟨"java/lang/StringBuilder", "append", "(Ljava/lang/String;)Ljava/lang/StringBuilder;"⟩ : MethodName)) hown (mvT hZ (hw _ (List.mem_of_getElem? (i := 61) rfl))) (mvT hZ (hw _ (List.mem_of_getElem? (i := 62) rfl))) (notFace_of_selects (args := #[]) (mvT hZ (hw _ (List.mem_of_getElem? (i := 64) rfl)))) (mvT hZ (hw _ (List.mem_of_getElem? (i := 64) rfl))) (mvT hZ (hw _ (List.mem_of_getElem? (i := 63) rfl))) (by decide) (backOf (W := 1) (rm11 l Z a0 hw [] b1 dn4 za4 zq4 ls17 ld17 (7 : Int32) an4 (0 + 22) 7 zc h17 n0 sz17 O17 SC hzc ⟨f17_E_b1, f17_F_b1_value, f17_F_b1_coder, f17_F_b1_count, f17_P_dn4, f17_E_dn4⟩ ⟨Es17, Fv17, Fc17, Bl17⟩ g_b1 gq4 (Ne.symm nl17_dn4.2) hz4 hq4 rfl (by omega)) hZ (hw _ (List.mem_of_getElem? (i := 65) rfl)) (hw _ (List.mem_of_getElem? (i := 42) rfl)) (by decide) (by decide)) q18a q18c (g := (mkF m 24 #[rv r, iv ch, iv cd, rv x] [(.ref ls17), (.ref b1), (.ref r)])) rfl (by rw [hml]; rfl) (Steps.refl _) (argsL := [(.ref ls17)]) (rest := [(.ref r)]) (lenOf pd_24 rfl) rfl (by show 2 * 0 + _ ≤ _; exact Nat.le_of_eq rfl) (hb hby d8_24) (fun _ _ => ⟨rfl, e17, (by decide : (((((0 + 1) + 1) + 2) + 1) + 2) + 1 ≤ _), (by decide : (((((0 + 4) + 16) + 92) + 400) + 44) + 400 ≤ _)⟩)
    dsimp only [Pt.U, Pt.locs, Pt.cells, Pt.slots] at X18 l18 y18 z18 st18 hQ18
    subst l18 y18 z18
    obtain ⟨dn18, za18, an18, zq18, rfl, N18q, Kq18, Sq18, hz18, hq18, gq18, hg18⟩ := hQ18
    have N18 := Fr.app N4 N18q
    have sfn18 : Safe Z EL T17.vm h17 dn18 := by
      rcases hg18 with ⟨-, -, q3⟩ | ⟨-, q2, -⟩
      · rw [q3]; exact sf17_dn4
      · exact Safe.new q2
    have nd18_ld17 : ld17 ≠ dn18 := by
      rcases hg18 with ⟨-, -, q3⟩ | ⟨-, q2, -⟩
      · rw [q3]; exact (Ne.symm nl17_dn4.2)
      · exact Nat.ne_of_lt (Nat.lt_of_lt_of_le (BA.lt Bl17) q2)
    have nd18_td : td ≠ dn18 := by
      rcases hg18 with ⟨-, -, q3⟩ | ⟨-, q2, -⟩
      · rw [q3]; exact nd4_td
      · exact Nat.ne_of_lt (Nat.lt_of_lt_of_le (BA.lt f17_P_td) q2)
    have szo_dn18 : h0.size ≤ dn18 := by
      rcases hg18 with ⟨-, -, q3⟩ | ⟨-, q2, -⟩
      · rw [q3]; exact szo_dn4
      · exact Nat.le_trans (K17).1 q2
    have nq_r_dn4 : r ≠ dn4 := Exa.ne f17_E_r f17_E_dn4 (by decide)
    have nq_x_dn4 : x ≠ dn4 := Exa.ne f17_E_x f17_E_dn4 (by decide)
    have nq_ls17_b1 : ls17 ≠ b1 := Exa.ne Es17 f17_E_b1 (by decide)
    have nq_ld17_b1 : ld17 ≠ b1 := Ne.symm (own_neB f17_E_b1 Bl17 (hw _ (List.mem_of_getElem? (i := 41) rfl)))
    have hs18 : ∀ y ∈ ([b1, dn4] : List Addr), Safe Z EL T17.vm h17 y := (sfS (Safe.exa hZ.alike f17_E_b1 (by decide) (by decide)) (sfS sf17_dn4 sf0))
    have f18_E_r := Exa.keep f17_E_r Kq18
    have f18_U_r := Unt.keep Kq18 (ninS ne_r_b1 (ninS nq_r_dn4 nin0)) f17_U_r
    have f18_F_r_backtrace := Fld.keep f17_F_r_backtrace Kq18 (ninS ne_r_b1 (ninS nq_r_dn4 nin0))
    have f18_F_r_detailMessage := Fld.keep f17_F_r_detailMessage Kq18 (ninS ne_r_b1 (ninS nq_r_dn4 nin0))
    have f18_F_r_cause := Fld.keep f17_F_r_cause Kq18 (ninS ne_r_b1 (ninS nq_r_dn4 nin0))
    have f18_F_r_stackTrace := Fld.keep f17_F_r_stackTrace Kq18 (ninS ne_r_b1 (ninS nq_r_dn4 nin0))
    have f18_F_r_suppressedExceptions := Fld.keep f17_F_r_suppressedExceptions Kq18 (ninS ne_r_b1 (ninS nq_r_dn4 nin0))
    have f18_F_r_channel := Fld.keep f17_F_r_channel Kq18 (ninS ne_r_b1 (ninS nq_r_dn4 nin0))
    have f18_F_r_replyCode := Fld.keep f17_F_r_replyCode Kq18 (ninS ne_r_b1 (ninS nq_r_dn4 nin0))
    have f18_E_x := Exa.keep f17_E_x Kq18
    have f18_F_x_value := Fld.keep f17_F_x_value Kq18 (ninS ne_x_b1 (ninS nq_x_dn4 nin0))
    have f18_F_x_coder := Fld.keep f17_F_x_coder Kq18 (ninS ne_x_b1 (ninS nq_x_dn4 nin0))
    have f18_P_td := BA.keep f17_P_td Kq18 (ninS ne_td_b1 (ninS nd4_td nin0))
    have f18_E_b1 := Exa.keep f17_E_b1 Kq18
    have f18_E_dn4 := Exa.keep f17_E_dn4 Kq18
    have f18_E_ls17 := Exa.keep Es17 Kq18
    have f18_F_ls17_value := Fld.keep Fv17 Kq18 (ninS nq_ls17_b1 (ninS (Ne.symm nl17_dn4.1) nin0))
    have f18_F_ls17_coder := Fld.keep Fc17 Kq18 (ninS nq_ls17_b1 (ninS (Ne.symm nl17_dn4.1) nin0))
    have f18_P_ld17 := BA.keep Bl17 Kq18 (ninS nq_ld17_b1 (ninS (Ne.symm nl17_dn4.2) nin0))
    have sz18 := Nat.le_trans sz17 (Kq18).1
    have K18z := Keep.trans K17 Kq18 (allS (Or.inr szo_b1) (allS (Or.inr szo_dn4) all0))
    have O18 := Old.keep O17 Kq18 (allS g_b1 (allS gq4 all0))
    have hkS := Nat.le_trans hkS (Kq18).1
    have sf18_dn4 := Safe.keep Kq18 hs18 C17.1 sf17_dn4
    have sf18_dn18 := Safe.keep Kq18 hs18 C17.1 sfn18
    have C18 := CHr.trans C17 (CHr.keep Kq18 hs18 C17.1)
    obtain ⟨Ee18, Fe18, Ge18, He18, Be18, Ze18⟩ := Sq18
    have hi18 : (an18 = 34 ∨ an18 = 70) ∧ ((0 + 22) + 7) ≤ an18 ∧ ((0 + 22) + 7) ≤ 47 := by rcases hg18 with ⟨q1, q2, -⟩ | ⟨q1, -, kk, q3, q4, q5, q6⟩ <;> omega
    refine Ends.go (fun _ => st18.trans) ?_
    show Ends p.tables e below G (T18.setTop (mkF m 27 #[rv r, iv ch, iv cd, rv x] [(.ref b1), (.ref r)]))
    obtain ⟨ls19, T19, h19, ks19, ld19, kl19, X19, e19, E19, hS, hkS, hZ, hown, Es19, Fc19, Fv19, Av19, -, -, cr19, -, nn19, st19⟩ := ldcCH (s := s) (vm0 := T17.vm) X18 hx hZ hown (hw _ (List.mem_of_getElem? (i := 132) rfl)) wS rfl hS hkS hEL (List.mem_of_getElem? (i := 3) rfl) C18.1 (z := (2 : Int32)) ⟨by decide +kernel, rfl⟩ (by decide) (by decide +kernel) (g := (mkF m 27 #[rv r, iv ch, iv cd, rv x] [(.ref b1), (.ref r)])) rfl (hb hby d8_27) (n := 40) (by decide +kernel) (by decide) (by decide) (by decide)
    have sf19_dn18 := CHr.safe cr19 (BA.lt Be18) sf18_dn18
    have nl19_dn18 := nn19 _ sf19_dn18
    have f19_E_r := f18_E_r.ext E19
    have f19_U_r := f18_U_r.ext E19
    have f19_F_r_backtrace := f18_F_r_backtrace.ext E19
    have f19_F_r_detailMessage := f18_F_r_detailMessage.ext E19
    have f19_F_r_cause := f18_F_r_cause.ext E19
    have f19_F_r_stackTrace := f18_F_r_stackTrace.ext E19
    have f19_F_r_suppressedExceptions := f18_F_r_suppressedExceptions.ext E19
    have f19_F_r_channel := f18_F_r_channel.ext E19
    have f19_F_r_replyCode := f18_F_r_replyCode.ext E19
    have f19_E_x := f18_E_x.ext E19
    have f19_F_x_value := f18_F_x_value.ext E19
    have f19_F_x_coder := f18_F_x_coder.ext E19
    have f19_P_td := BA.ext f18_P_td E19
    have f19_E_b1 := Ee18.ext E19
    have f19_F_b1_value := Fe18.ext E19
    have f19_F_b1_coder := Ge18.ext E19
    have f19_F_b1_count := He18.ext E19
    have f19_P_dn18 := BA.ext Be18 E19
    have f19_E_dn18 := Ze18.ext E19
    have sz19 := Nat.le_trans sz18 E19.1
    have K19 := Keep.ext K18z E19
    have O19 := Old.ext O18 E19
    have C19 := CHr.trans C18 cr19
    have Bl19 : BA Z h19 ld19 (2 : Int32) := ⟨_, _, Av19⟩
    refine Ends.go (fun _ => st19 _) ?_
    show Ends p.tables e below G (T19.setTop (mkF m 29 #[rv r, iv ch, iv cd, rv x] [(.ref ls19), (.ref b1), (.ref r)]))
    obtain ⟨cq20, kq20, q20a, q20b, q20c⟩ := isOf hZ e19 f19_E_b1
    obtain ⟨_, _, ⟨T20, L20, k20, n20⟩, -, X20, ⟨Lc20, hQ20, l20, y20, z20⟩, st20⟩ := X19.virtualBack hx (y := (⟨"java/lang/StringBuilder", "append", "(Ljava/lang/String;)Ljava/lang/StringBuilder;"⟩ : MethodName)) (z := (⟨"java/lang/StringBuilder", "append", "(Ljava/lang/String;)Ljava/lang/StringBuilder;"⟩ : MethodName)) hown (mvT hZ (hw _ (List.mem_of_getElem? (i := 61) rfl))) (mvT hZ (hw _ (List.mem_of_getElem? (i := 62) rfl))) (notFace_of_selects (args := #[]) (mvT hZ (hw _ (List.mem_of_getElem? (i := 64) rfl)))) (mvT hZ (hw _ (List.mem_of_getElem? (i := 64) rfl))) (mvT hZ (hw _ (List.mem_of_getElem? (i := 63) rfl))) (by decide) (backOf (W := 1) (rm11 l Z a0 hw [] b1 dn18 za18 zq18 ls19 ld19 (2 : Int32) an18 ((0 + 22) + 7) 2 zc h19 n0 sz19 O19 SC hzc ⟨f19_E_b1, f19_F_b1_value, f19_F_b1_coder, f19_F_b1_count, f19_P_dn18, f19_E_dn18⟩ ⟨Es19, Fv19, Fc19, Bl19⟩ g_b1 gq18 (Ne.symm nl19_dn18.2) hz18 hq18 rfl (by omega)) hZ (hw _ (List.mem_of_getElem? (i := 65) rfl)) (hw _ (List.mem_of_getElem? (i := 42) rfl)) (by decide) (by decide)) q20a q20c (g := (mkF m 29 #[rv r, iv ch, iv cd, rv x] [(.ref ls19), (.ref b1), (.ref r)])) rfl (by rw [hml]; rfl) (Steps.refl _) (argsL := [(.ref ls19)]) (rest := [(.ref r)]) (lenOf pd_24 rfl) rfl (by show 2 * 0 + _ ≤ _; exact Nat.le_of_eq rfl) (hb hby d8_29) (fun _ _ => ⟨rfl, e19, (by decide : (((((((0 + 1) + 1) + 2) + 1) + 2) + 1) + 2) + 1 ≤ _), (by decide : (((((((0 + 4) + 16) + 92) + 400) + 44) + 400) + 44) + 400 ≤ _)⟩)
    dsimp only [Pt.U, Pt.locs, Pt.cells, Pt.slots] at X20 l20 y20 z20 st20 hQ20
    subst l20 y20 z20
    obtain ⟨dn20, za20, an20, zq20, rfl, N20q, Kq20, Sq20, hz20, hq20, gq20, hg20⟩ := hQ20
    have N20 := Fr.app N18 N20q
    have sfn20 : Safe Z EL T19.vm h19 dn20 := by
      rcases hg20 with ⟨-, -, q3⟩ | ⟨-, q2, -⟩
      · rw [q3]; exact sf19_dn18
      · exact Safe.new q2
    have nd20_ld19 : ld19 ≠ dn20 := by
      rcases hg20 with ⟨-, -, q3⟩ | ⟨-, q2, -⟩
      · rw [q3]; exact (Ne.symm nl19_dn18.2)
      · exact Nat.ne_of_lt (Nat.lt_of_lt_of_le (BA.lt Bl19) q2)
    have nd20_td : td ≠ dn20 := by
      rcases hg20 with ⟨-, -, q3⟩ | ⟨-, q2, -⟩
      · rw [q3]; exact nd18_td
      · exact Nat.ne_of_lt (Nat.lt_of_lt_of_le (BA.lt f19_P_td) q2)
    have szo_dn20 : h0.size ≤ dn20 := by
      rcases hg20 with ⟨-, -, q3⟩ | ⟨-, q2, -⟩
      · rw [q3]; exact szo_dn18
      · exact Nat.le_trans (K19).1 q2
    have nq_r_dn18 : r ≠ dn18 := Exa.ne f19_E_r f19_E_dn18 (by decide)
    have nq_x_dn18 : x ≠ dn18 := Exa.ne f19_E_x f19_E_dn18 (by decide)
    have nq_ls19_b1 : ls19 ≠ b1 := Exa.ne Es19 f19_E_b1 (by decide)
    have nq_ld19_b1 : ld19 ≠ b1 := Ne.symm (own_neB f19_E_b1 Bl19 (hw _ (List.mem_of_getElem? (i := 41) rfl)))
    have hs20 : ∀ y ∈ ([b1, dn18] : List Addr), Safe Z EL T19.vm h19 y := (sfS (Safe.exa hZ.alike f19_E_b1 (by decide) (by decide)) (sfS sf19_dn18 sf0))
    have f20_E_r := Exa.keep f19_E_r Kq20
    have f20_U_r := Unt.keep Kq20 (ninS ne_r_b1 (ninS nq_r_dn18 nin0)) f19_U_r
    have f20_F_r_backtrace := Fld.keep f19_F_r_backtrace Kq20 (ninS ne_r_b1 (ninS nq_r_dn18 nin0))
    have f20_F_r_detailMessage := Fld.keep f19_F_r_detailMessage Kq20 (ninS ne_r_b1 (ninS nq_r_dn18 nin0))
    have f20_F_r_cause := Fld.keep f19_F_r_cause Kq20 (ninS ne_r_b1 (ninS nq_r_dn18 nin0))
    have f20_F_r_stackTrace := Fld.keep f19_F_r_stackTrace Kq20 (ninS ne_r_b1 (ninS nq_r_dn18 nin0))
    have f20_F_r_suppressedExceptions := Fld.keep f19_F_r_suppressedExceptions Kq20 (ninS ne_r_b1 (ninS nq_r_dn18 nin0))
    have f20_F_r_channel := Fld.keep f19_F_r_channel Kq20 (ninS ne_r_b1 (ninS nq_r_dn18 nin0))
    have f20_F_r_replyCode := Fld.keep f19_F_r_replyCode Kq20 (ninS ne_r_b1 (ninS nq_r_dn18 nin0))
    have f20_E_x := Exa.keep f19_E_x Kq20
    have f20_F_x_value := Fld.keep f19_F_x_value Kq20 (ninS ne_x_b1 (ninS nq_x_dn18 nin0))
    have f20_F_x_coder := Fld.keep f19_F_x_coder Kq20 (ninS ne_x_b1 (ninS nq_x_dn18 nin0))
    have f20_P_td := BA.keep f19_P_td Kq20 (ninS ne_td_b1 (ninS nd18_td nin0))
    have f20_E_b1 := Exa.keep f19_E_b1 Kq20
    have f20_E_dn18 := Exa.keep f19_E_dn18 Kq20
    have f20_E_ls19 := Exa.keep Es19 Kq20
    have f20_F_ls19_value := Fld.keep Fv19 Kq20 (ninS nq_ls19_b1 (ninS (Ne.symm nl19_dn18.1) nin0))
    have f20_F_ls19_coder := Fld.keep Fc19 Kq20 (ninS nq_ls19_b1 (ninS (Ne.symm nl19_dn18.1) nin0))
    have f20_P_ld19 := BA.keep Bl19 Kq20 (ninS nq_ld19_b1 (ninS (Ne.symm nl19_dn18.2) nin0))
    have sz20 := Nat.le_trans sz19 (Kq20).1
    have K20z := Keep.trans K19 Kq20 (allS (Or.inr szo_b1) (allS (Or.inr szo_dn18) all0))
    have O20 := Old.keep O19 Kq20 (allS g_b1 (allS gq18 all0))
    have hkS := Nat.le_trans hkS (Kq20).1
    have sf20_dn18 := Safe.keep Kq20 hs20 C19.1 sf19_dn18
    have sf20_dn20 := Safe.keep Kq20 hs20 C19.1 sfn20
    have C20 := CHr.trans C19 (CHr.keep Kq20 hs20 C19.1)
    obtain ⟨Ee20, Fe20, Ge20, He20, Be20, Ze20⟩ := Sq20
    have hi20 : (an20 = 34 ∨ an20 = 70) ∧ (((0 + 22) + 7) + 2) ≤ an20 ∧ (((0 + 22) + 7) + 2) ≤ 47 := by rcases hg20 with ⟨q1, q2, -⟩ | ⟨q1, -, kk, q3, q4, q5, q6⟩ <;> omega
    refine Ends.go (fun _ => st20.trans) ?_
    show Ends p.tables e below G (T20.setTop (mkF m 32 #[rv r, iv ch, iv cd, rv x] [(.ref b1), (.ref r)]))
    refine Ends.go (fun _ => XS.iloadN X20.here hx rfl (hb hby d8_32) rfl) ?_
    show Ends p.tables e below G (T20.setTop (mkF m 33 #[rv r, iv ch, iv cd, rv x] [(.int cd), (.ref b1), (.ref r)]))
    obtain ⟨cq21, kq21, q21a, q21b, q21c⟩ := isOf hZ rfl Ee20
    obtain ⟨_, _, ⟨T21, L21, k21, n21⟩, -, X21, ⟨Lc21, hQ21, l21, y21, z21⟩, st21⟩ := X20.virtualBack hx (y := (⟨"java/lang/StringBuilder", "append", "(I)Ljava/lang/StringBuilder;"⟩ : MethodName)) (z := (⟨"java/lang/StringBuilder", "append", "(I)Ljava/lang/StringBuilder;"⟩ : MethodName)) hown (mvT hZ (hw _ (List.mem_of_getElem? (i := 133) rfl))) (mvT hZ (hw _ (List.mem_of_getElem? (i := 134) rfl))) (notFace_of_selects (args := #[]) (mvT hZ (hw _ (List.mem_of_getElem? (i := 136) rfl)))) (mvT hZ (hw _ (List.mem_of_getElem? (i := 136) rfl))) (mvT hZ (hw _ (List.mem_of_getElem? (i := 135) rfl))) (by decide) (backOf (W := 1) (rm24 l Z a0 hw [] b1 dn20 za20 zq20 cd an20 (((0 + 22) + 7) + 2) dst a1 a2 DC1 DC2 zc T20.heap n0 sz20 O20 SC hzc TB1 TB2 ⟨Ee20, Fe20, Ge20, He20, Be20, Ze20⟩ g_b1 gq20 hz20 hq20 (by omega)) hZ (hw _ (List.mem_of_getElem? (i := 137) rfl)) (hw _ (List.mem_of_getElem? (i := 42) rfl)) (by decide) (by decide)) q21a q21c (g := (mkF m 33 #[rv r, iv ch, iv cd, rv x] [(.int cd), (.ref b1), (.ref r)])) rfl (by rw [hml]; rfl) (Steps.refl _) (argsL := [(.int cd)]) (rest := [(.ref r)]) (lenOf pd_25 rfl) rfl (by show 2 * 0 + _ ≤ _; exact Nat.le_of_eq rfl) (hb hby d8_33) (fun _ _ => ⟨rfl, rfl, (by decide : ((((((((0 + 1) + 1) + 2) + 1) + 2) + 1) + 2) + 1) + 1 ≤ _), (by decide : ((((((((0 + 4) + 16) + 92) + 400) + 44) + 400) + 44) + 400) + 400 ≤ _)⟩)
    dsimp only [Pt.U, Pt.locs, Pt.cells, Pt.slots] at X21 l21 y21 z21 st21 hQ21
    subst l21 y21 z21
    obtain ⟨dn21, za21, an21, zq21, kd21, rfl, N21q, Kq21, Sq21, hz21, hq21, gq21, hk21, hg21⟩ := hQ21
    have N21 := Fr.app N20 N21q
    have sfn21 : Safe Z EL T19.vm T20.heap dn21 := by
      rcases hg21 with ⟨-, -, q3⟩ | ⟨-, q2, -⟩
      · rw [q3]; exact sf20_dn20
      · exact Safe.new q2
    have nd21_td : td ≠ dn21 := by
      rcases hg21 with ⟨-, -, q3⟩ | ⟨-, q2, -⟩
      · rw [q3]; exact nd20_td
      · exact Nat.ne_of_lt (Nat.lt_of_lt_of_le (BA.lt f20_P_td) q2)
    have szo_dn21 : h0.size ≤ dn21 := by
      rcases hg21 with ⟨-, -, q3⟩ | ⟨-, q2, -⟩
      · rw [q3]; exact szo_dn20
      · exact Nat.le_trans (K20z).1 q2
    have nq_r_dn20 : r ≠ dn20 := Exa.ne f20_E_r Ze20 (by decide)
    have nq_x_dn20 : x ≠ dn20 := Exa.ne f20_E_x Ze20 (by decide)
    have hs21 : ∀ y ∈ ([b1, dn20] : List Addr), Safe Z EL T19.vm T20.heap y := (sfS (Safe.exa hZ.alike Ee20 (by decide) (by decide)) (sfS sf20_dn20 sf0))
    have f21_E_r := Exa.keep f20_E_r Kq21
    have f21_U_r := Unt.keep Kq21 (ninS ne_r_b1 (ninS nq_r_dn20 nin0)) f20_U_r
    have f21_F_r_backtrace := Fld.keep f20_F_r_backtrace Kq21 (ninS ne_r_b1 (ninS nq_r_dn20 nin0))
    have f21_F_r_detailMessage := Fld.keep f20_F_r_detailMessage Kq21 (ninS ne_r_b1 (ninS nq_r_dn20 nin0))
    have f21_F_r_cause := Fld.keep f20_F_r_cause Kq21 (ninS ne_r_b1 (ninS nq_r_dn20 nin0))
    have f21_F_r_stackTrace := Fld.keep f20_F_r_stackTrace Kq21 (ninS ne_r_b1 (ninS nq_r_dn20 nin0))
    have f21_F_r_suppressedExceptions := Fld.keep f20_F_r_suppressedExceptions Kq21 (ninS ne_r_b1 (ninS nq_r_dn20 nin0))
    have f21_F_r_channel := Fld.keep f20_F_r_channel Kq21 (ninS ne_r_b1 (ninS nq_r_dn20 nin0))
    have f21_F_r_replyCode := Fld.keep f20_F_r_replyCode Kq21 (ninS ne_r_b1 (ninS nq_r_dn20 nin0))
    have f21_E_x := Exa.keep f20_E_x Kq21
    have f21_F_x_value := Fld.keep f20_F_x_value Kq21 (ninS ne_x_b1 (ninS nq_x_dn20 nin0))
    have f21_F_x_coder := Fld.keep f20_F_x_coder Kq21 (ninS ne_x_b1 (ninS nq_x_dn20 nin0))
    have f21_P_td := BA.keep f20_P_td Kq21 (ninS ne_td_b1 (ninS nd20_td nin0))
    have f21_E_b1 := Exa.keep Ee20 Kq21
    have f21_E_dn20 := Exa.keep Ze20 Kq21
    have sz21 := Nat.le_trans sz20 (Kq21).1
    have K21z := Keep.trans K20z Kq21 (allS (Or.inr szo_b1) (allS (Or.inr szo_dn20) all0))
    have O21 := Old.keep O20 Kq21 (allS g_b1 (allS gq20 all0))
    have hkS := Nat.le_trans hkS (Kq21).1
    have sf21_dn20 := Safe.keep Kq21 hs21 C20.1 sf20_dn20
    have sf21_dn21 := Safe.keep Kq21 hs21 C20.1 sfn21
    have C21 := CHr.trans C20 (CHr.keep Kq21 hs21 C20.1)
    obtain ⟨Ee21, Fe21, Ge21, He21, Be21, Ze21⟩ := Sq21
    have hi21 : (an21 = 34 ∨ an21 = 70) ∧ ((((0 + 22) + 7) + 2) + kd21) ≤ an21 ∧ ((((0 + 22) + 7) + 2) + kd21) ≤ 45 := by rcases hg21 with ⟨q1, q2, -⟩ | ⟨q1, -, kk, q3, q4, q5, q6⟩ <;> omega
    refine Ends.go (fun _ => st21.trans) ?_
    show Ends p.tables e below G (T21.setTop (mkF m 36 #[rv r, iv ch, iv cd, rv x] [(.ref b1), (.ref r)]))
    obtain ⟨ls22, T22, h22, ks22, ld22, kl22, X22, e22, E22, hS, hkS, hZ, hown, Es22, Fc22, Fv22, Av22, -, -, cr22, -, nn22, st22⟩ := ldcCH (s := s) (vm0 := T19.vm) X21 hx hZ hown (hw _ (List.mem_of_getElem? (i := 156) rfl)) wS rfl hS hkS hEL (List.mem_of_getElem? (i := 4) rfl) C21.1 (z := (1 : Int32)) ⟨by decide +kernel, rfl⟩ (by decide) (by decide +kernel) (g := (mkF m 36 #[rv r, iv ch, iv cd, rv x] [(.ref b1), (.ref r)])) rfl (hb hby d8_36) (n := 40) (by decide +kernel) (by decide) (by decide) (by decide)
    have sf22_dn21 := CHr.safe cr22 (BA.lt Be21) sf21_dn21
    have nl22_dn21 := nn22 _ sf22_dn21
    have f22_E_r := f21_E_r.ext E22
    have f22_U_r := f21_U_r.ext E22
    have f22_F_r_backtrace := f21_F_r_backtrace.ext E22
    have f22_F_r_detailMessage := f21_F_r_detailMessage.ext E22
    have f22_F_r_cause := f21_F_r_cause.ext E22
    have f22_F_r_stackTrace := f21_F_r_stackTrace.ext E22
    have f22_F_r_suppressedExceptions := f21_F_r_suppressedExceptions.ext E22
    have f22_F_r_channel := f21_F_r_channel.ext E22
    have f22_F_r_replyCode := f21_F_r_replyCode.ext E22
    have f22_E_x := f21_E_x.ext E22
    have f22_F_x_value := f21_F_x_value.ext E22
    have f22_F_x_coder := f21_F_x_coder.ext E22
    have f22_P_td := BA.ext f21_P_td E22
    have f22_E_b1 := Ee21.ext E22
    have f22_F_b1_value := Fe21.ext E22
    have f22_F_b1_coder := Ge21.ext E22
    have f22_F_b1_count := He21.ext E22
    have f22_P_dn21 := BA.ext Be21 E22
    have f22_E_dn21 := Ze21.ext E22
    have sz22 := Nat.le_trans sz21 E22.1
    have K22 := Keep.ext K21z E22
    have O22 := Old.ext O21 E22
    have C22 := CHr.trans C21 cr22
    have Bl22 : BA Z h22 ld22 (1 : Int32) := ⟨_, _, Av22⟩
    refine Ends.go (fun _ => st22 _) ?_
    show Ends p.tables e below G (T22.setTop (mkF m 38 #[rv r, iv ch, iv cd, rv x] [(.ref ls22), (.ref b1), (.ref r)]))
    obtain ⟨cq23, kq23, q23a, q23b, q23c⟩ := isOf hZ e22 f22_E_b1
    obtain ⟨_, _, ⟨T23, L23, k23, n23⟩, -, X23, ⟨Lc23, hQ23, l23, y23, z23⟩, st23⟩ := X22.virtualBack hx (y := (⟨"java/lang/StringBuilder", "append", "(Ljava/lang/String;)Ljava/lang/StringBuilder;"⟩ : MethodName)) (z := (⟨"java/lang/StringBuilder", "append", "(Ljava/lang/String;)Ljava/lang/StringBuilder;"⟩ : MethodName)) hown (mvT hZ (hw _ (List.mem_of_getElem? (i := 61) rfl))) (mvT hZ (hw _ (List.mem_of_getElem? (i := 62) rfl))) (notFace_of_selects (args := #[]) (mvT hZ (hw _ (List.mem_of_getElem? (i := 64) rfl)))) (mvT hZ (hw _ (List.mem_of_getElem? (i := 64) rfl))) (mvT hZ (hw _ (List.mem_of_getElem? (i := 63) rfl))) (by decide) (backOf (W := 1) (rm11 l Z a0 hw [] b1 dn21 za21 zq21 ls22 ld22 (1 : Int32) an21 ((((0 + 22) + 7) + 2) + kd21) 1 zc h22 n0 sz22 O22 SC hzc ⟨f22_E_b1, f22_F_b1_value, f22_F_b1_coder, f22_F_b1_count, f22_P_dn21, f22_E_dn21⟩ ⟨Es22, Fv22, Fc22, Bl22⟩ g_b1 gq21 (Ne.symm nl22_dn21.2) hz21 hq21 rfl (by omega)) hZ (hw _ (List.mem_of_getElem? (i := 65) rfl)) (hw _ (List.mem_of_getElem? (i := 42) rfl)) (by decide) (by decide)) q23a q23c (g := (mkF m 38 #[rv r, iv ch, iv cd, rv x] [(.ref ls22), (.ref b1), (.ref r)])) rfl (by rw [hml]; rfl) (Steps.refl _) (argsL := [(.ref ls22)]) (rest := [(.ref r)]) (lenOf pd_24 rfl) rfl (by show 2 * 0 + _ ≤ _; exact Nat.le_of_eq rfl) (hb hby d8_38) (fun _ _ => ⟨rfl, e22, (by decide : ((((((((((0 + 1) + 1) + 2) + 1) + 2) + 1) + 2) + 1) + 1) + 2) + 1 ≤ _), (by decide : ((((((((((0 + 4) + 16) + 92) + 400) + 44) + 400) + 44) + 400) + 400) + 44) + 400 ≤ _)⟩)
    dsimp only [Pt.U, Pt.locs, Pt.cells, Pt.slots] at X23 l23 y23 z23 st23 hQ23
    subst l23 y23 z23
    obtain ⟨dn23, za23, an23, zq23, rfl, N23q, Kq23, Sq23, hz23, hq23, gq23, hg23⟩ := hQ23
    have N23 := Fr.app N21 N23q
    have sfn23 : Safe Z EL T22.vm h22 dn23 := by
      rcases hg23 with ⟨-, -, q3⟩ | ⟨-, q2, -⟩
      · rw [q3]; exact sf22_dn21
      · exact Safe.new q2
    have nd23_ld22 : ld22 ≠ dn23 := by
      rcases hg23 with ⟨-, -, q3⟩ | ⟨-, q2, -⟩
      · rw [q3]; exact (Ne.symm nl22_dn21.2)
      · exact Nat.ne_of_lt (Nat.lt_of_lt_of_le (BA.lt Bl22) q2)
    have nd23_td : td ≠ dn23 := by
      rcases hg23 with ⟨-, -, q3⟩ | ⟨-, q2, -⟩
      · rw [q3]; exact nd21_td
      · exact Nat.ne_of_lt (Nat.lt_of_lt_of_le (BA.lt f22_P_td) q2)
    have szo_dn23 : h0.size ≤ dn23 := by
      rcases hg23 with ⟨-, -, q3⟩ | ⟨-, q2, -⟩
      · rw [q3]; exact szo_dn21
      · exact Nat.le_trans (K22).1 q2
    have nq_r_dn21 : r ≠ dn21 := Exa.ne f22_E_r f22_E_dn21 (by decide)
    have nq_x_dn21 : x ≠ dn21 := Exa.ne f22_E_x f22_E_dn21 (by decide)
    have nq_ls22_b1 : ls22 ≠ b1 := Exa.ne Es22 f22_E_b1 (by decide)
    have nq_ld22_b1 : ld22 ≠ b1 := Ne.symm (own_neB f22_E_b1 Bl22 (hw _ (List.mem_of_getElem? (i := 41) rfl)))
    have hs23 : ∀ y ∈ ([b1, dn21] : List Addr), Safe Z EL T22.vm h22 y := (sfS (Safe.exa hZ.alike f22_E_b1 (by decide) (by decide)) (sfS sf22_dn21 sf0))
    have f23_E_r := Exa.keep f22_E_r Kq23
    have f23_U_r := Unt.keep Kq23 (ninS ne_r_b1 (ninS nq_r_dn21 nin0)) f22_U_r
    have f23_F_r_backtrace := Fld.keep f22_F_r_backtrace Kq23 (ninS ne_r_b1 (ninS nq_r_dn21 nin0))
    have f23_F_r_detailMessage := Fld.keep f22_F_r_detailMessage Kq23 (ninS ne_r_b1 (ninS nq_r_dn21 nin0))
    have f23_F_r_cause := Fld.keep f22_F_r_cause Kq23 (ninS ne_r_b1 (ninS nq_r_dn21 nin0))
    have f23_F_r_stackTrace := Fld.keep f22_F_r_stackTrace Kq23 (ninS ne_r_b1 (ninS nq_r_dn21 nin0))
    have f23_F_r_suppressedExceptions := Fld.keep f22_F_r_suppressedExceptions Kq23 (ninS ne_r_b1 (ninS nq_r_dn21 nin0))
    have f23_F_r_channel := Fld.keep f22_F_r_channel Kq23 (ninS ne_r_b1 (ninS nq_r_dn21 nin0))
    have f23_F_r_replyCode := Fld.keep f22_F_r_replyCode Kq23 (ninS ne_r_b1 (ninS nq_r_dn21 nin0))
    have f23_E_x := Exa.keep f22_E_x Kq23
    have f23_F_x_value := Fld.keep f22_F_x_value Kq23 (ninS ne_x_b1 (ninS nq_x_dn21 nin0))
    have f23_F_x_coder := Fld.keep f22_F_x_coder Kq23 (ninS ne_x_b1 (ninS nq_x_dn21 nin0))
    have f23_P_td := BA.keep f22_P_td Kq23 (ninS ne_td_b1 (ninS nd21_td nin0))
    have f23_E_b1 := Exa.keep f22_E_b1 Kq23
    have f23_E_dn21 := Exa.keep f22_E_dn21 Kq23
    have f23_E_ls22 := Exa.keep Es22 Kq23
    have f23_F_ls22_value := Fld.keep Fv22 Kq23 (ninS nq_ls22_b1 (ninS (Ne.symm nl22_dn21.1) nin0))
    have f23_F_ls22_coder := Fld.keep Fc22 Kq23 (ninS nq_ls22_b1 (ninS (Ne.symm nl22_dn21.1) nin0))
    have f23_P_ld22 := BA.keep Bl22 Kq23 (ninS nq_ld22_b1 (ninS (Ne.symm nl22_dn21.2) nin0))
    have sz23 := Nat.le_trans sz22 (Kq23).1
    have K23z := Keep.trans K22 Kq23 (allS (Or.inr szo_b1) (allS (Or.inr szo_dn21) all0))
    have O23 := Old.keep O22 Kq23 (allS g_b1 (allS gq21 all0))
    have hkS := Nat.le_trans hkS (Kq23).1
    have sf23_dn21 := Safe.keep Kq23 hs23 C22.1 sf22_dn21
    have sf23_dn23 := Safe.keep Kq23 hs23 C22.1 sfn23
    have C23 := CHr.trans C22 (CHr.keep Kq23 hs23 C22.1)
    obtain ⟨Ee23, Fe23, Ge23, He23, Be23, Ze23⟩ := Sq23
    have hi23 : (an23 = 34 ∨ an23 = 70) ∧ (((((0 + 22) + 7) + 2) + kd21) + 1) ≤ an23 ∧ (((((0 + 22) + 7) + 2) + kd21) + 1) ≤ 47 := by rcases hg23 with ⟨q1, q2, -⟩ | ⟨q1, -, kk, q3, q4, q5, q6⟩ <;> omega
    refine Ends.go (fun _ => st23.trans) ?_
    show Ends p.tables e below G (T23.setTop (mkF m 41 #[rv r, iv ch, iv cd, rv x] [(.ref b1), (.ref r)]))
    refine Ends.go (fun _ => XS.aloadN X23.here hx rfl (hb hby d8_41) rfl rfl) ?_
    show Ends p.tables e below G (T23.setTop (mkF m 42 #[rv r, iv ch, iv cd, rv x] [(.ref x), (.ref b1), (.ref r)]))
    obtain ⟨cq24, kq24, q24a, q24b, q24c⟩ := isOf hZ rfl Ee23
    obtain ⟨_, _, ⟨T24, L24, k24, n24⟩, -, X24, ⟨Lc24, hQ24, l24, y24, z24⟩, st24⟩ := X23.virtualBack hx (y := (⟨"java/lang/StringBuilder", "append", "(Ljava/lang/String;)Ljava/lang/StringBuilder;"⟩ : MethodName)) (z := (⟨"java/lang/StringBuilder", "append", "(Ljava/lang/String;)Ljava/lang/StringBuilder;"⟩ : MethodName)) hown (mvT hZ (hw _ (List.mem_of_getElem? (i := 61) rfl))) (mvT hZ (hw _ (List.mem_of_getElem? (i := 62) rfl))) (notFace_of_selects (args := #[]) (mvT hZ (hw _ (List.mem_of_getElem? (i := 64) rfl)))) (mvT hZ (hw _ (List.mem_of_getElem? (i := 64) rfl))) (mvT hZ (hw _ (List.mem_of_getElem? (i := 63) rfl))) (by decide) (backOf (W := 1) (rm11 l Z a0 hw [] b1 dn23 za23 zq23 x td (1 : Int32) an23 (((((0 + 22) + 7) + 2) + kd21) + 1) 1 zc T23.heap n0 sz23 O23 SC hzc ⟨Ee23, Fe23, Ge23, He23, Be23, Ze23⟩ ⟨f23_E_x, f23_F_x_value, f23_F_x_coder, f23_P_td⟩ g_b1 gq23 nd23_td hz23 hq23 rfl (by omega)) hZ (hw _ (List.mem_of_getElem? (i := 65) rfl)) (hw _ (List.mem_of_getElem? (i := 42) rfl)) (by decide) (by decide)) q24a q24c (g := (mkF m 42 #[rv r, iv ch, iv cd, rv x] [(.ref x), (.ref b1), (.ref r)])) rfl (by rw [hml]; rfl) (Steps.refl _) (argsL := [(.ref x)]) (rest := [(.ref r)]) (lenOf pd_24 rfl) rfl (by show 2 * 0 + _ ≤ _; exact Nat.le_of_eq rfl) (hb hby d8_42) (fun _ _ => ⟨rfl, rfl, (by decide : (((((((((((0 + 1) + 1) + 2) + 1) + 2) + 1) + 2) + 1) + 1) + 2) + 1) + 1 ≤ _), (by decide : (((((((((((0 + 4) + 16) + 92) + 400) + 44) + 400) + 44) + 400) + 400) + 44) + 400) + 400 ≤ _)⟩)
    dsimp only [Pt.U, Pt.locs, Pt.cells, Pt.slots] at X24 l24 y24 z24 st24 hQ24
    subst l24 y24 z24
    obtain ⟨dn24, za24, an24, zq24, rfl, N24q, Kq24, Sq24, hz24, hq24, gq24, hg24⟩ := hQ24
    have N24 := Fr.app N23 N24q
    have sfn24 : Safe Z EL T22.vm T23.heap dn24 := by
      rcases hg24 with ⟨-, -, q3⟩ | ⟨-, q2, -⟩
      · rw [q3]; exact sf23_dn23
      · exact Safe.new q2
    have nd24_td : td ≠ dn24 := by
      rcases hg24 with ⟨-, -, q3⟩ | ⟨-, q2, -⟩
      · rw [q3]; exact nd23_td
      · exact Nat.ne_of_lt (Nat.lt_of_lt_of_le (BA.lt f23_P_td) q2)
    have szo_dn24 : h0.size ≤ dn24 := by
      rcases hg24 with ⟨-, -, q3⟩ | ⟨-, q2, -⟩
      · rw [q3]; exact szo_dn23
      · exact Nat.le_trans (K23z).1 q2
    have nq_r_dn23 : r ≠ dn23 := Exa.ne f23_E_r Ze23 (by decide)
    have nq_x_dn23 : x ≠ dn23 := Exa.ne f23_E_x Ze23 (by decide)
    have hs24 : ∀ y ∈ ([b1, dn23] : List Addr), Safe Z EL T22.vm T23.heap y := (sfS (Safe.exa hZ.alike Ee23 (by decide) (by decide)) (sfS sf23_dn23 sf0))
    have f24_E_r := Exa.keep f23_E_r Kq24
    have f24_U_r := Unt.keep Kq24 (ninS ne_r_b1 (ninS nq_r_dn23 nin0)) f23_U_r
    have f24_F_r_backtrace := Fld.keep f23_F_r_backtrace Kq24 (ninS ne_r_b1 (ninS nq_r_dn23 nin0))
    have f24_F_r_detailMessage := Fld.keep f23_F_r_detailMessage Kq24 (ninS ne_r_b1 (ninS nq_r_dn23 nin0))
    have f24_F_r_cause := Fld.keep f23_F_r_cause Kq24 (ninS ne_r_b1 (ninS nq_r_dn23 nin0))
    have f24_F_r_stackTrace := Fld.keep f23_F_r_stackTrace Kq24 (ninS ne_r_b1 (ninS nq_r_dn23 nin0))
    have f24_F_r_suppressedExceptions := Fld.keep f23_F_r_suppressedExceptions Kq24 (ninS ne_r_b1 (ninS nq_r_dn23 nin0))
    have f24_F_r_channel := Fld.keep f23_F_r_channel Kq24 (ninS ne_r_b1 (ninS nq_r_dn23 nin0))
    have f24_F_r_replyCode := Fld.keep f23_F_r_replyCode Kq24 (ninS ne_r_b1 (ninS nq_r_dn23 nin0))
    have f24_E_x := Exa.keep f23_E_x Kq24
    have f24_F_x_value := Fld.keep f23_F_x_value Kq24 (ninS ne_x_b1 (ninS nq_x_dn23 nin0))
    have f24_F_x_coder := Fld.keep f23_F_x_coder Kq24 (ninS ne_x_b1 (ninS nq_x_dn23 nin0))
    have f24_P_td := BA.keep f23_P_td Kq24 (ninS ne_td_b1 (ninS nd23_td nin0))
    have f24_E_b1 := Exa.keep Ee23 Kq24
    have f24_E_dn23 := Exa.keep Ze23 Kq24
    have sz24 := Nat.le_trans sz23 (Kq24).1
    have K24z := Keep.trans K23z Kq24 (allS (Or.inr szo_b1) (allS (Or.inr szo_dn23) all0))
    have O24 := Old.keep O23 Kq24 (allS g_b1 (allS gq23 all0))
    have hkS := Nat.le_trans hkS (Kq24).1
    have sf24_dn23 := Safe.keep Kq24 hs24 C23.1 sf23_dn23
    have sf24_dn24 := Safe.keep Kq24 hs24 C23.1 sfn24
    have C24 := CHr.trans C23 (CHr.keep Kq24 hs24 C23.1)
    obtain ⟨Ee24, Fe24, Ge24, He24, Be24, Ze24⟩ := Sq24
    have hi24 : (an24 = 34 ∨ an24 = 70) ∧ ((((((0 + 22) + 7) + 2) + kd21) + 1) + 1) ≤ an24 ∧ ((((((0 + 22) + 7) + 2) + kd21) + 1) + 1) ≤ 47 := by rcases hg24 with ⟨q1, q2, -⟩ | ⟨q1, -, kk, q3, q4, q5, q6⟩ <;> omega
    refine Ends.go (fun _ => st24.trans) ?_
    show Ends p.tables e below G (T24.setTop (mkF m 45 #[rv r, iv ch, iv cd, rv x] [(.ref b1), (.ref r)]))
    obtain ⟨cq25, kq25, q25a, q25b, q25c⟩ := isOf hZ rfl Ee24
    obtain ⟨_, _, ⟨T25, L25, k25, n25⟩, -, X25, ⟨Lc25, hQ25, l25, y25, z25⟩, st25⟩ := X24.virtualBack hx (y := (⟨"java/lang/StringBuilder", "toString", "()Ljava/lang/String;"⟩ : MethodName)) (z := (⟨"java/lang/StringBuilder", "toString", "()Ljava/lang/String;"⟩ : MethodName)) hown (mvT hZ (hw _ (List.mem_of_getElem? (i := 157) rfl))) (mvT hZ (hw _ (List.mem_of_getElem? (i := 158) rfl))) (notFace_of_selects (args := #[]) (mvT hZ (hw _ (List.mem_of_getElem? (i := 160) rfl)))) (mvT hZ (hw _ (List.mem_of_getElem? (i := 160) rfl))) (mvT hZ (hw _ (List.mem_of_getElem? (i := 159) rfl))) (by decide) (backOf (W := 1) (rm29 l Z a0 hw [] b1 dn24 za24 zq24 an24 ((((((0 + 22) + 7) + 2) + kd21) + 1) + 1) zc T24.heap n0 sz24 O24 SC hzc ⟨Ee24, Fe24, Ge24, He24, Be24, Ze24⟩ hz24 hq24 (by omega)) hZ (hw _ (List.mem_of_getElem? (i := 161) rfl)) (hw _ (List.mem_of_getElem? (i := 42) rfl)) (by decide) (by decide)) q25a q25c (g := (mkF m 45 #[rv r, iv ch, iv cd, rv x] [(.ref b1), (.ref r)])) rfl (by rw [hml]; rfl) (Steps.refl _) (argsL := []) (rest := [(.ref r)]) (lenOf pd_26 rfl) rfl (by show 2 * 0 + _ ≤ _; exact Nat.le_of_eq rfl) (hb hby d8_45) (fun _ _ => ⟨rfl, rfl, (by decide : ((((((((((((0 + 1) + 1) + 2) + 1) + 2) + 1) + 2) + 1) + 1) + 2) + 1) + 1) + 2 ≤ _), (by decide : ((((((((((((0 + 4) + 16) + 92) + 400) + 44) + 400) + 44) + 400) + 400) + 44) + 400) + 400) + 154 ≤ _)⟩)
    dsimp only [Pt.U, Pt.locs, Pt.cells, Pt.slots] at X25 l25 y25 z25 st25 hQ25
    subst l25 y25 z25
    obtain ⟨xs25, rfl, N25q, Kq25⟩ := hQ25
    have N25 := Fr.app N24 N25q
    have hs25 : ∀ y ∈ ([] : List Addr), Safe Z EL T22.vm T24.heap y := sf0
    have f25_E_r := Exa.keep f24_E_r Kq25
    have f25_U_r := Unt.keep Kq25 nin0 f24_U_r
    have f25_F_r_backtrace := Fld.keep f24_F_r_backtrace Kq25 nin0
    have f25_F_r_detailMessage := Fld.keep f24_F_r_detailMessage Kq25 nin0
    have f25_F_r_cause := Fld.keep f24_F_r_cause Kq25 nin0
    have f25_F_r_stackTrace := Fld.keep f24_F_r_stackTrace Kq25 nin0
    have f25_F_r_suppressedExceptions := Fld.keep f24_F_r_suppressedExceptions Kq25 nin0
    have f25_F_r_channel := Fld.keep f24_F_r_channel Kq25 nin0
    have f25_F_r_replyCode := Fld.keep f24_F_r_replyCode Kq25 nin0
    have f25_E_x := Exa.keep f24_E_x Kq25
    have f25_F_x_value := Fld.keep f24_F_x_value Kq25 nin0
    have f25_F_x_coder := Fld.keep f24_F_x_coder Kq25 nin0
    have f25_P_td := BA.keep f24_P_td Kq25 nin0
    have f25_E_b1 := Exa.keep Ee24 Kq25
    have f25_F_b1_value := Fld.keep Fe24 Kq25 nin0
    have f25_F_b1_coder := Fld.keep Ge24 Kq25 nin0
    have f25_F_b1_count := Fld.keep He24 Kq25 nin0
    have f25_P_dn24 := BA.keep Be24 Kq25 nin0
    have f25_E_dn24 := Exa.keep Ze24 Kq25
    have sz25 := Nat.le_trans sz24 (Kq25).1
    have K25z := Keep.trans K24z Kq25 all0
    have O25 := Old.keep O24 Kq25 all0
    have hkS := Nat.le_trans hkS (Kq25).1
    have sf25_dn24 := Safe.keep Kq25 hs25 C24.1 sf24_dn24
    have C25 := CHr.trans C24 (CHr.keep Kq25 hs25 C24.1)
    refine Ends.go (fun _ => st25.trans) ?_
    show Ends p.tables e below G (T25.setTop (mkF m 48 #[rv r, iv ch, iv cd, rv x] [(.ref xs25), (.ref r)]))
    have hTKv := Vm.MethodsKnown.alikeC hS.1.alike hTK
    have hBlv := Vm.FramesKnown.alikeC hS.1.alike hBelow
    obtain ⟨_, _, ⟨T26, L26, k26, n26⟩, -, X26, ⟨Lc26, hQ26, l26, y26, z26⟩, st26⟩ := X25.specialBack hx (y := (⟨"java/io/IOException", "<init>", "(Ljava/lang/String;)V"⟩ : MethodName)) rfl hown (mvT hZ (hw _ (List.mem_of_getElem? (i := 192) rfl))) (mvT hZ (hw _ (List.mem_of_getElem? (i := 193) rfl))) (mvT hZ (hw _ (List.mem_of_getElem? (i := 196) rfl))) (by decide) (backOfKL (W := 0) (rm38 l hl_ Z a0 hw [] r xs25 uU uS T25.heap n0 sz25 O25 SU SS f25_E_r f25_U_r f25_F_r_cause f25_F_r_stackTrace f25_F_r_suppressedExceptions f25_F_r_backtrace f25_F_r_detailMessage g_r) hZ (hw _ (List.mem_of_getElem? (i := 196) rfl)) (hw _ (List.mem_of_getElem? (i := 195) rfl)) (by decide) (by decide) hTKv hBlv) (g := (mkF m 48 #[rv r, iv ch, iv cd, rv x] [(.ref xs25), (.ref r)])) rfl (by rw [hml]; rfl) (Steps.refl _) (a := r) (argsL := [(.ref xs25)]) (rest := []) (lenOf pd_8 rfl) rfl (by show 2 * 0 + _ ≤ _; exact Nat.le_of_eq rfl) (hb hby d8_48) (fun _ _ => ⟨rfl, rfl, (by decide : (((((((((((((0 + 1) + 1) + 2) + 1) + 2) + 1) + 2) + 1) + 1) + 2) + 1) + 1) + 2) + 1 ≤ _), (by decide : (((((((((((((0 + 4) + 16) + 92) + 400) + 44) + 400) + 44) + 400) + 400) + 44) + 400) + 400) + 154) + 2752 ≤ _)⟩)
    dsimp only [Pt.U, Pt.locs, Pt.cells, Pt.slots] at X26 l26 y26 z26 st26 hQ26
    subst l26 y26 z26
    obtain ⟨rfl, N26q, Kq26⟩ := hQ26
    have N26 := Fr.app N25 N26q
    have fk1 := Fld.kp Kq26 f25_F_r_channel (Or.inr (own_six_ne hw (Or.inr (hw _ (List.mem_of_getElem? (i := 247) rfl))) (ty := .boolean) (by decide) (by decide)))
    have fk2 := Fld.kp Kq26 f25_F_r_replyCode (Or.inr (own_six_ne hw (Or.inr (hw _ (List.mem_of_getElem? (i := 249) rfl))) (ty := .int) (by decide) (by decide)))
    have Kk26 := keep_of_kp Kq26
    have hs26 : ∀ y ∈ ([r] : List Addr), Safe Z EL T22.vm T25.heap y := (sfS (Safe.exa hZ.alike f25_E_r (by decide) (by decide)) sf0)
    have f26_E_r := Exa.keep f25_E_r Kk26
    have sz26 := Nat.le_trans sz25 (Kk26).1
    have K26z := Keep.trans K25z Kk26 (allS (Or.inl (List.mem_of_getElem? (i := 0) rfl)) all0)
    have O26 := Old.keep O25 Kk26 (allS g_r all0)
    have hkS := Nat.le_trans hkS (Kk26).1
    have C26 := CHr.trans C25 (CHr.keep Kk26 hs26 C25.1)
    refine Ends.go (fun _ => st26.trans) ?_
    show Ends p.tables e below G (T26.setTop (mkF m 51 #[rv r, iv ch, iv cd, rv x] []))
    refine Ends.go (fun _ => XS.aloadN X26.here hx rfl (hb hby d8_51) rfl rfl) ?_
    show Ends p.tables e below G (T26.setTop (mkF m 52 #[rv r, iv ch, iv cd, rv x] [(.ref r)]))
    refine Ends.go (fun _ => XS.iloadN X26.here hx rfl (hb hby d8_52) rfl) ?_
    show Ends p.tables e below G (T26.setTop (mkF m 53 #[rv r, iv ch, iv cd, rv x] [(.int ch), (.ref r)]))
    obtain ⟨T27, h27, X27, e27, W27, st27⟩ := putFN X26 hx hZ hown (hw _ (List.mem_of_getElem? (i := 246) rfl)) Via.refl rfl fk1 f26_E_r (Or.inr ⟨(hw _ (List.mem_of_getElem? (i := 247) rfl)), rfl, hnm⟩) (hw _ (List.mem_of_getElem? (i := 35) rfl)) (ty := .boolean) (v' := (.int (nar .boolean ch))) (by decide) rfl (fits_nar_bool _) (g := (mkF m 53 #[rv r, iv ch, iv cd, rv x] [(.int ch), (.ref r)])) rfl rfl (hb hby d8_53)
    have sfo27 : Safe Z EL T22.vm _ r := (Safe.exa hZ.alike f26_E_r (by decide) (by decide))
    have f27_E_r := f26_E_r.wr W27
    have f27_F_r_channel := fk1.same W27
    have f27_F_r_replyCode := fk2.other W27 (Or.inr (slot_ne (Or.inr (hw _ (List.mem_of_getElem? (i := 249) rfl))) (Or.inr (hw _ (List.mem_of_getElem? (i := 247) rfl))) (by decide) (t := .int) (t' := .boolean) (by decide) (by decide)))
    have sz27 := Nat.le_trans sz26 (Nat.le_of_eq W27.size.symm)
    have K27 := Keep.wr K26z W27 (Or.inl (List.mem_of_getElem? (i := 0) rfl))
    have N27 := Fr.snoc X27 N26 g_r
    have O27 := Old.wr O26 W27 g_r
    have hkS := Nat.le_trans hkS (Nat.le_of_eq W27.size.symm)
    have C27 := CHr.trans C26 (CHr.wr W27 sfo27 C26.1)
    refine Ends.go (fun _ => st27 _) ?_
    show Ends p.tables e below G (T27.setTop (mkF m 56 #[rv r, iv ch, iv cd, rv x] []))
    refine Ends.go (fun _ => XS.aloadN X27.here hx rfl (hb hby d8_56) rfl rfl) ?_
    show Ends p.tables e below G (T27.setTop (mkF m 57 #[rv r, iv ch, iv cd, rv x] [(.ref r)]))
    refine Ends.go (fun _ => XS.iloadN X27.here hx rfl (hb hby d8_57) rfl) ?_
    show Ends p.tables e below G (T27.setTop (mkF m 58 #[rv r, iv ch, iv cd, rv x] [(.int cd), (.ref r)]))
    obtain ⟨T28, h28, X28, e28, W28, st28⟩ := putF X27 hx hZ hown (host := "") (Or.inl (hw _ (List.mem_of_getElem? (i := 248) rfl))) Via.refl e27 f27_F_r_replyCode f27_E_r (Or.inr ⟨(hw _ (List.mem_of_getElem? (i := 249) rfl)), rfl, hnm⟩) (hw _ (List.mem_of_getElem? (i := 35) rfl)) (ty := .int) (by decide) rfl rfl (g := (mkF m 58 #[rv r, iv ch, iv cd, rv x] [(.int cd), (.ref r)])) rfl rfl (hb hby d8_58)
    have sfo28 : Safe Z EL T22.vm _ r := (Safe.exa hZ.alike f27_E_r (by decide) (by decide))
    have f28_E_r := f27_E_r.wr W28
    have f28_F_r_channel := f27_F_r_channel.other W28 (Or.inr (slot_ne (Or.inr (hw _ (List.mem_of_getElem? (i := 247) rfl))) (Or.inr (hw _ (List.mem_of_getElem? (i := 249) rfl))) (by decide) (t := .boolean) (t' := .int) (by decide) (by decide)))
    have f28_F_r_replyCode := f27_F_r_replyCode.same W28
    have sz28 := Nat.le_trans sz27 (Nat.le_of_eq W28.size.symm)
    have K28 := Keep.wr K27 W28 (Or.inl (List.mem_of_getElem? (i := 0) rfl))
    have N28 := Fr.snoc X28 N27 g_r
    have O28 := Old.wr O27 W28 g_r
    have hkS := Nat.le_trans hkS (Nat.le_of_eq W28.size.symm)
    have C28 := CHr.trans C27 (CHr.wr W28 sfo28 C27.1)
    refine Ends.go (fun _ => st28 _) ?_
    show Ends p.tables e below G (T28.setTop (mkF m 61 #[rv r, iv ch, iv cd, rv x] []))
    have fch := f28_F_r_channel
    rw [own_nar01 hch] at fch
    refine own_finW X28 hS (by rw [e28]; exact hkS) hx Bd.returns Bd.notSynchronized (hb hby d8_61) (Q := (Q8 Z r ch cd x td dst a1 a2 DC1 DC2 uU uS zc h0 n0)) (P := fun vm_ hp_ => CHr Z EL s.vm s.heap vm_ hp_) hG (by decide) (by decide) ?_ ?_
    · show (Q8 Z r ch cd x td dst a1 a2 DC1 DC2 uU uS zc h0 n0) _ T28.heap _
      rw [e28]
      exact ⟨rfl, N28, K28, f28_E_r, fch, f28_F_r_replyCode⟩
    · show CHr Z EL s.vm s.heap T28.vm T28.heap
      rw [e28, hh]
      exact CHr.trans C28 (CHv.at X28 hZ hEL C28.1)
theorem own_c255 (x : Int32) : ¬ (255 : Int32) < nar .char ((x &&& (255 : Int32)).toUInt32.toUInt16.toUInt32.toInt32) := by
  rw [show nar .char ((x &&& (255 : Int32)).toUInt32.toUInt16.toUInt32.toInt32) = x &&& 255 from by simp only [nar, i2c_mask]]
  have h := c_mask x 255 8 (by decide) (by decide)
  rw [Int32.lt_iff_toInt_lt, h, show ((2 ^ 8 : Nat) : Int) = 256 from rfl]
  have o : (255 : Int32).toInt = 255 := rfl
  omega
theorem own_ch1 {A : Cell} {y : Int32} (hs : A.slots.size = 1) (h0 : A.slots[0]? = some (.int y)) (hf : fits .char (.int y) = true) (hy : ¬ 255 < y) : (∀ (i : Nat) (v : Value), A.slots[i]? = some v → fits .char v = true) ∧ ∀ i, i < A.slots.size → ¬ 255 < StrChars.cv A i := by
  refine ⟨fun i v hv => ?_, fun i hi => ?_⟩
  · have hi := (Array.getElem?_eq_some_iff.mp hv).1
    obtain rfl : i = 0 := by omega
    rw [h0] at hv; cases hv; exact hf
  · obtain rfl : i = 0 := by omega
    have e : StrChars.cv A 0 = y := by unfold StrChars.cv; rw [h0]
    rw [e]; exact hy
theorem own_words : ∀ d ∈ StrChars.Road.words, d ∈ tables_1 := by decide +kernel
theorem own_ba1 {Z : State} {h : Heap} {a : Addr} {c : Cell} {y : Int32} (A : Arr Z h a c .byte) (hs : c.slots.size = 1) (h0 : c.slots[0]? = some (.int y)) (hf : fits .byte (.int y) = true) : BA Z h a (1 : Int32) := by
  refine ⟨c.cls, [.int y], c, A, rfl, hs, by decide, fun i hi => ?_, fun i hi => ?_⟩
  · obtain rfl : i = 0 := by omega
    exact h0
  · obtain rfl : i = 0 := by omega
    exact hf
theorem own_len {args : Array Value} {first s : State} {o : Option Outcome} {idx : List Nat} {t : Term} {x : Addr} {D : Cell} {v : Value} (h : (Term.length t).eval args first o idx s = some v) (ht : t.eval args first o idx s = some (.ref x)) (ha : s.arrayAt? x = some D) : D.slots.size < 2 ^ 31 := by
  apply Decidable.byContradiction
  intro hn
  have hn2 : ¬ D.slots.size < 2147483648 := hn
  simp [Term.eval, ht, ha, hn2] at h
theorem own_tbl0 {s : State} {a0 : Array Value} {f : String} (hfit : Fit s) (wl : (Jvm.Cond.laysStatic "java/lang/Integer" f "[B").before a0 s = true) (wz : (Jvm.Cond.initialized "java/lang/Integer").before a0 s = true) (wx : (Jvm.Cond.exactly (Jvm.Term.static "java/lang/Integer" f "[B") "[B").before a0 s = true) (wn : (Jvm.Cond.eq (Jvm.Term.length (Jvm.Term.static "java/lang/Integer" f "[B")) (Jvm.Term.int 100)).before a0 s = true) (wa : (Jvm.Cond.arrayClass .byte).before a0 s = true) :
    ∃ st c k a D, s.vm.findClass "java/lang/Integer" = some c ∧ s.vm.classes[c]? = some k ∧ k.statics = some st ∧ Jvm.Free.SBG.Tbl s f st a D := by
  obtain ⟨cI, k, i, fl, st, cell, hc, hi, hst, ha, hcell, hs, hcls, hlt, hty⟩ := Cond.laysStatic_spec wl
  obtain ⟨b, cB, cellB, kB, hev, hcB, hcellB, hkB, hstatB, hclsB, -⟩ := Cond.exactly_spec wx
  obtain ⟨cf', i', k', f', st', cell', h1, h2, h3, h4, h5, h6, h7⟩ := Sta.start hev (Or.inr ⟨wz, wl⟩)
  have e9 := hi.symm.trans h1
  simp only [Option.some.injEq, Prod.mk.injEq] at e9
  obtain ⟨rfl, rfl, rfl, rfl⟩ := e9
  obtain rfl : st = st' := Option.some.inj (ha.symm.trans h4)
  obtain rfl : cell = cell' := Option.some.inj (hcell.symm.trans h5)
  obtain ⟨cA, kA, comp, g1, g2, g3⟩ := Cond.arrayClass_spec wa
  have g1 : s.vm.findClass "[B" = some cA := g1
  obtain rfl : cA = cB := Option.some.inj (g1.symm.trans hcB)
  have wn' := Cond.before_iff.mp wn
  obtain ⟨x, y, e1, e2, k1, -⟩ := cmp_v (Or.inl wn')
  obtain ⟨a', D, d1, d2, d3⟩ := Term.length_spec e1
  subst d3
  have z100 : D.slots.size.toInt32 = 100 := gotT (Cond.eq_ints e1 (Term.int_eval (100))) wn'
  obtain rfl : a' = b := by have := d1.symm.trans hev; simpa using this
  obtain ⟨q1, q2, q3, -⟩ := State.arrayAt?_spec d2
  obtain rfl : D = cellB := Option.some.inj (q1.symm.trans hcellB)
  have hn : D.slots.size < 2 ^ 31 := own_len e1 d1 d2
  have s100 : D.slots.size = 100 := by
    have e := congrArg Int32.toInt z100
    rw [len_toInt hn] at e
    have o : (100 : Int32).toInt = 100 := rfl
    omega
  have hA : s.isArrayOf D .byte := ⟨(fun q hq => by rw [hq] at q3; cases q3), kA, (by rw [hclsB]; exact g2), comp, g3⟩
  refine ⟨st, cI, k, a', D, hc, State.fieldFound?_class hi, ha, cI, i, k, fl, cell, hi, hst, h3, ha, hcell, (fun q => by rw [q] at hs; cases hs), ?_, q1, hA, q2, s100, fun r hr => ?_⟩
  · exact h7
  · obtain ⟨v, u1, u2⟩ := elem_fit (j := Int32.ofNat r) hfit (show Arr s s.heap a' D .byte from ⟨q1, hA, q2⟩) (own_inb (Int32.toInt_ofNat_of_lt (by omega)) (n := 100) hr s100)
    rw [own_tn (Int32.toInt_ofNat_of_lt (by omega))] at u1
    obtain ⟨xx, rfl⟩ := fit_I u2 (by simp)
    rw [u1]
    simp [Jvm.Free.SBG.iAt, Array.getD_eq_getD_getElem?, u1]
theorem pd_27 : parseMethodDescriptor "([C)V" = some ⟨[(.array .char)], none⟩ := by decide +kernel
theorem pd_28 : parseMethodDescriptor "(ZILjava/lang/String;)V" = some ⟨[.boolean, .int, (.object "java/lang/String")], none⟩ := by decide +kernel
theorem pd_29 : parseMethodDescriptor "(ZI)Z" = some ⟨[.boolean, .int], some .boolean⟩ := by decide +kernel
theorem pn_0 : plainName "com/example/dispatchbook/dispatchbook/amqp/BrokerClosedExceptionRefusedMessagePinLaw" = true := by first | (simp [plainName, overriddenIn]; done) | decide +kernel
theorem ef_0 (m : MethodId) (x0 : Int32) (x1 : Int32) (x2 : Int32) : entryFrame m #[(.int x0), (.int x1), (.int x2)] maxLocals = mkF m 0 #[iv x0, iv x1, iv x2, un, un, un, un, un, un] [] := by first | (simp [entryFrame, mkF, argsToLocals, Value.category, maxLocals]; done) | rfl
def Q0 (Z : State) (fl : Int32) (xx : Int32) (cc : Int32) (dst : Addr) (a1 : Addr) (a2 : Addr) (DC1 : Cell) (DC2 : Cell) (uU : Addr) (uS : Addr) (zc : Int32) (h0 : Heap) (n0 : Nat) (v : Option Value) (h : Heap) (L : List Loc) : Prop := v = some (.int 1) ∧ Fr n0 L
set_option maxRecDepth 65536 in
set_option maxHeartbeats 40000000 in
theorem rm0 (l : Launch) (hl_ : l.stackTraces = true) (Z : State) (a0 : Array Value) (hw : ∀ d ∈ tables_1, d.before a0 Z = true) (ws : List Jvm.Cond) (fl : Int32) (xx : Int32) (cc : Int32) (dst : Addr) (a1 : Addr) (a2 : Addr) (DC1 : Cell) (DC2 : Cell) (uU : Addr) (uS : Addr) (zc : Int32) (h0 : Heap) (n0 : Nat) (Z0 : n0 ≤ h0.size) (O0 : Old Z n0 h0) (SC : Sta Z Z.heap "java/lang/String" "COMPACT_STRINGS" "Z" (.int zc)) (hzc : ¬ (zc = (0 : Int32))) (TB1 : Jvm.Free.SBG.Tbl Z "DigitOnes" dst a1 DC1) (TB2 : Jvm.Free.SBG.Tbl Z "DigitTens" dst a2 DC2) (SU : Sta Z Z.heap "java/lang/Throwable" "UNASSIGNED_STACK" "[Ljava/lang/StackTraceElement;" (.ref uU)) (SS : Sta Z Z.heap "java/lang/Throwable" "SUPPRESSED_SENTINEL" "Ljava/util/List;" (.ref uS)) :
    MetFree l x (head1 (Jvm.Cond.code x code maxLocals ret :: ws) room_1) (fun a U => a = #[(.int fl), (.int xx), (.int cc)] ∧ Z.Warmed39 U.vm ∧ U.heap = h0 ∧ CHv Z EL U.vm h0) (fun _ _ bl s _ => s.vm.MethodsKnown ∧ s.vm.FramesKnown bl) (fun _ U o U' => ∃ v L, o = .returned v ∧ Q0 Z fl xx cc dst a1 a2 DC1 DC2 uU uS zc h0 n0 v U'.heap L ∧ ReturnedEndW U o U' L room_1.cells room_1.slots) := by
  refine MetFree.of_bodySF (plainFor_of_name pn_0) hisR ?_
  intro p e s m args below meth c s₁ Bd hml0 hP hK
  obtain ⟨rfl, hZ, hh, HC⟩ := hP
  obtain ⟨hTK, hBelow⟩ := hK
  have hx := Bd.exec
  have hby := Bd.bytes
  have hml : c.maxLocals = 9 := hml0
  have hown : s.vm.findClass "com/example/dispatchbook/dispatchbook/amqp/BrokerClosedExceptionRefusedMessagePinLaw" = some m.cls := findClass_of_methodNamed Bd.named
  have hnm := (name_of_methodNamed Bd.named Bd.method).1
  have X0 : Stand p l e room_1 s m #[(.int fl), (.int xx), (.int cc)] below meth c s₁ [] 0 0 := Stand.of_body Bd
  have e0 : s₁.heap = h0 := by rw [← hh, Bd.state]; rfl
  have N0 := Fr.nil n0
  have C0 := CHr.refl HC
  have hS : s.Since s.vm 0 := (State.WarmedH.refl s).since 0
  have hkS : 0 ≤ h0.size := Nat.zero_le _
  have wS := own_wS hw
  have hEL := own_EW hw
  show Ends p.tables e below (fun (s₂ : State) (o : Outcome) => ∃ v L, o = .returned v ∧ (Q0 Z fl xx cc dst a1 a2 DC1 DC2 uU uS zc h0 n0) v s₂.heap L ∧ ReturnedEndW s o s₂ L room_1.cells room_1.slots) (s₁.setTop (entryFrame m #[(.int fl), (.int xx), (.int cc)] maxLocals))
  refine Ends.any fun G hG => ?_
  refine Ends.go (fun t k => castTop (ef_0 m fl xx cc) k) ?_
  show Ends p.tables e below G (s₁.setTop (mkF m 0 #[iv fl, iv xx, iv cc, un, un, un, un, un, un] []))
  refine Ends.go (fun _ => XS.iloadN X0.here hx rfl (hb hby at_0) rfl) ?_
  show Ends p.tables e below G (s₁.setTop (mkF m 1 #[iv fl, iv xx, iv cc, un, un, un, un, un, un] [(.int fl)]))
  refine Ends.go (fun _ => XS.iconst X0.here hx rfl (hb hby at_1)) ?_
  show Ends p.tables e below G (s₁.setTop (mkF m 2 #[iv fl, iv xx, iv cc, un, un, un, un, un, un] [(.int (1 : Int32)), (.int fl)]))
  refine Ends.go (fun _ => XS.iand X0.here hx rfl (hb hby at_2) rfl) ?_
  show Ends p.tables e below G (s₁.setTop (mkF m 3 #[iv fl, iv xx, iv cc, un, un, un, un, un, un] [(.int (fl &&& (1 : Int32)))]))
  by_cases hfl : (fl &&& (1 : Int32)) = (0 : Int32)
  · refine Ends.go (fun _ => XS.ifYes X0.here hx rfl (pc0 := 3) (pc' := 10) rfl (hb hby at_3) rfl ((if0 _ _).trans (teq (hfl : (fl &&& (1 : Int32)) = (0 : Int32))).1) (by decide) (by decide)) ?_
    show Ends p.tables e below G (s₁.setTop (mkF m 10 #[iv fl, iv xx, iv cc, un, un, un, un, un, un] []))
    refine Ends.go (fun _ => XS.iconst X0.here hx rfl (hb hby at_10)) ?_
    show Ends p.tables e below G (s₁.setTop (mkF m 11 #[iv fl, iv xx, iv cc, un, un, un, un, un, un] [(.int (0 : Int32))]))
    refine Ends.go (fun _ => XS.istoreN (g := (mkF m 11 #[iv fl, iv xx, iv cc, un, un, un, un, un, un] [(.int (0 : Int32))])) X0.here hx rfl (hb hby at_11) rfl (l' := #[iv fl, iv xx, iv cc, iv (0 : Int32), un, un, un, un, un]) rfl) ?_
    show Ends p.tables e below G (s₁.setTop (mkF m 12 #[iv fl, iv xx, iv cc, iv (0 : Int32), un, un, un, un, un] []))
    refine Ends.go (fun _ => XS.iloadN X0.here hx rfl (hb hby at_12) rfl) ?_
    show Ends p.tables e below G (s₁.setTop (mkF m 13 #[iv fl, iv xx, iv cc, iv (0 : Int32), un, un, un, un, un] [(.int fl)]))
    refine Ends.go (fun _ => XS.iconst X0.here hx rfl (hb hby at_13)) ?_
    show Ends p.tables e below G (s₁.setTop (mkF m 14 #[iv fl, iv xx, iv cc, iv (0 : Int32), un, un, un, un, un] [(.int (1 : Int32)), (.int fl)]))
    refine Ends.go (fun _ => XS.iushr X0.here hx rfl (hb hby at_14) rfl) ?_
    show Ends p.tables e below G (s₁.setTop (mkF m 15 #[iv fl, iv xx, iv cc, iv (0 : Int32), un, un, un, un, un] [(.int ((fl.toUInt32 >>> ((1 : Int32) &&& 31).toUInt32).toInt32))]))
    refine Ends.go (fun _ => XS.iconst X0.here hx rfl (hb hby at_15)) ?_
    show Ends p.tables e below G (s₁.setTop (mkF m 16 #[iv fl, iv xx, iv cc, iv (0 : Int32), un, un, un, un, un] [(.int (3 : Int32)), (.int ((fl.toUInt32 >>> ((1 : Int32) &&& 31).toUInt32).toInt32))]))
    refine Ends.go (fun _ => XS.iand X0.here hx rfl (hb hby at_16) rfl) ?_
    show Ends p.tables e below G (s₁.setTop (mkF m 17 #[iv fl, iv xx, iv cc, iv (0 : Int32), un, un, un, un, un] [(.int (((fl.toUInt32 >>> ((1 : Int32) &&& 31).toUInt32).toInt32) &&& (3 : Int32)))]))
    refine Ends.go (fun _ => XS.istore (g := (mkF m 17 #[iv fl, iv xx, iv cc, iv (0 : Int32), un, un, un, un, un] [(.int (((fl.toUInt32 >>> ((1 : Int32) &&& 31).toUInt32).toInt32) &&& (3 : Int32)))])) X0.here hx rfl (hb hby at_17) rfl (l' := #[iv fl, iv xx, iv cc, iv (0 : Int32), iv (((fl.toUInt32 >>> ((1 : Int32) &&& 31).toUInt32).toInt32) &&& (3 : Int32)), un, un, un, un]) rfl) ?_
    show Ends p.tables e below G (s₁.setTop (mkF m 19 #[iv fl, iv xx, iv cc, iv (0 : Int32), iv (((fl.toUInt32 >>> ((1 : Int32) &&& 31).toUInt32).toInt32) &&& (3 : Int32)), un, un, un, un] []))
    refine Ends.go (fun _ => XS.iload X0.here hx rfl (hb hby at_19) rfl) ?_
    show Ends p.tables e below G (s₁.setTop (mkF m 21 #[iv fl, iv xx, iv cc, iv (0 : Int32), iv (((fl.toUInt32 >>> ((1 : Int32) &&& 31).toUInt32).toInt32) &&& (3 : Int32)), un, un, un, un] [(.int (((fl.toUInt32 >>> ((1 : Int32) &&& 31).toUInt32).toInt32) &&& (3 : Int32)))]))
    refine Ends.go (fun _ => XS.iloadN X0.here hx rfl (hb hby at_21) rfl) ?_
    show Ends p.tables e below G (s₁.setTop (mkF m 22 #[iv fl, iv xx, iv cc, iv (0 : Int32), iv (((fl.toUInt32 >>> ((1 : Int32) &&& 31).toUInt32).toInt32) &&& (3 : Int32)), un, un, un, un] [(.int xx), (.int (((fl.toUInt32 >>> ((1 : Int32) &&& 31).toUInt32).toInt32) &&& (3 : Int32)))]))
    obtain ⟨_, _, ⟨T1, L1, k1, n1⟩, -, X1, ⟨Lc1, hQ1, l1, y1, z1⟩, st1⟩ := Jvm.LawKit.callS X0 hx (y := (⟨"com/example/dispatchbook/dispatchbook/amqp/BrokerClosedExceptionRefusedMessagePinLaw", "pickCode", "(II)I"⟩ : MethodName)) hown (mvT hZ (hw _ (List.mem_of_getElem? (i := 0) rfl))) (mvT hZ (hw _ (List.mem_of_getElem? (i := 1) rfl))) (mvT hZ (hw _ (List.mem_of_getElem? (i := 2) rfl))) (mvT hZ (hw _ (List.mem_of_getElem? (i := 3) rfl))) (by decide) (backOf (W := 0) (rm1 l Z a0 hw [] (((fl.toUInt32 >>> ((1 : Int32) &&& 31).toUInt32).toInt32) &&& (3 : Int32)) xx h0 n0 Z0) hZ (hw _ (List.mem_of_getElem? (i := 3) rfl)) (hw _ (List.mem_of_getElem? (i := 2) rfl)) (by decide) (by decide)) (g := (mkF m 22 #[iv fl, iv xx, iv cc, iv (0 : Int32), iv (((fl.toUInt32 >>> ((1 : Int32) &&& 31).toUInt32).toInt32) &&& (3 : Int32)), un, un, un, un] [(.int xx), (.int (((fl.toUInt32 >>> ((1 : Int32) &&& 31).toUInt32).toInt32) &&& (3 : Int32)))])) rfl (by rw [hml]; rfl) (argsL := [(.int (((fl.toUInt32 >>> ((1 : Int32) &&& 31).toUInt32).toInt32) &&& (3 : Int32))), (.int xx)]) (rest := []) (lenOf pd_2 rfl) rfl (by show 2 * 0 + _ ≤ _; exact Nat.le_of_eq rfl) (hb hby at_22) (fun _ _ => ⟨rfl, e0, (by decide : 0 + 0 ≤ _), (by decide : 0 + 0 ≤ _)⟩)
    dsimp only [Pt.U, Pt.locs, Pt.cells, Pt.slots] at X1 l1 y1 z1 st1 hQ1
    subst l1 y1 z1
    obtain ⟨rr1, rfl, N1q, e1⟩ := hQ1
    have N1 := Fr.app N0 N1q
    refine Ends.go (fun _ => st1 _) ?_
    show Ends p.tables e below G (T1.setTop (mkF m 25 #[iv fl, iv xx, iv cc, iv (0 : Int32), iv (((fl.toUInt32 >>> ((1 : Int32) &&& 31).toUInt32).toInt32) &&& (3 : Int32)), un, un, un, un] [(.int rr1)]))
    refine Ends.go (fun _ => XS.istore (g := (mkF m 25 #[iv fl, iv xx, iv cc, iv (0 : Int32), iv (((fl.toUInt32 >>> ((1 : Int32) &&& 31).toUInt32).toInt32) &&& (3 : Int32)), un, un, un, un] [(.int rr1)])) X1.here hx rfl (hb hby at_25) rfl (l' := #[iv fl, iv xx, iv cc, iv (0 : Int32), iv (((fl.toUInt32 >>> ((1 : Int32) &&& 31).toUInt32).toInt32) &&& (3 : Int32)), iv rr1, un, un, un]) rfl) ?_
    show Ends p.tables e below G (T1.setTop (mkF m 27 #[iv fl, iv xx, iv cc, iv (0 : Int32), iv (((fl.toUInt32 >>> ((1 : Int32) &&& 31).toUInt32).toInt32) &&& (3 : Int32)), iv rr1, un, un, un] []))
    refine Ends.go (fun _ => XS.iconst X1.here hx rfl (hb hby at_27)) ?_
    show Ends p.tables e below G (T1.setTop (mkF m 28 #[iv fl, iv xx, iv cc, iv (0 : Int32), iv (((fl.toUInt32 >>> ((1 : Int32) &&& 31).toUInt32).toInt32) &&& (3 : Int32)), iv rr1, un, un, un] [(.int (1 : Int32))]))
    obtain ⟨T2, h2, k2, X2, e2, E2, A2, st2⟩ := newP X1 hx hZ (hw _ (List.mem_of_getElem? (i := 4) rfl)) e1 (g := (mkF m 28 #[iv fl, iv xx, iv cc, iv (0 : Int32), iv (((fl.toUInt32 >>> ((1 : Int32) &&& 31).toUInt32).toInt32) &&& (3 : Int32)), iv rr1, un, un, un] [(.int (1 : Int32))])) rfl (hb hby at_28) rfl (by decide) (cap := 1) (by decide) (by decide) (by decide) (by decide)
    obtain ⟨b2, g2⟩ : ∃ z, z = h0.size := ⟨_, rfl⟩
    rw [← g2] at A2 st2
    have g_b2 : n0 ≤ b2 := Nat.le_trans Z0 (Nat.le_of_eq g2.symm)
    have sz2 := Nat.le_trans Z0 E2.1
    have O2 := Old.ext O0 E2
    have hkS := Nat.le_trans hkS E2.1
    have C2 := CHr.trans C0 (CHr.ext E2 C0.1)
    have V2 : AF Z h2 b2 .char 1 (fun _ => (.int (0 : Int32))) := AF.new A2 rfl
    refine Ends.go (fun _ => st2 _) ?_
    show Ends p.tables e below G (T2.setTop (mkF m 30 #[iv fl, iv xx, iv cc, iv (0 : Int32), iv (((fl.toUInt32 >>> ((1 : Int32) &&& 31).toUInt32).toInt32) &&& (3 : Int32)), iv rr1, un, un, un] [(.ref b2)]))
    refine Ends.go (fun _ => XS.astore (g := (mkF m 30 #[iv fl, iv xx, iv cc, iv (0 : Int32), iv (((fl.toUInt32 >>> ((1 : Int32) &&& 31).toUInt32).toInt32) &&& (3 : Int32)), iv rr1, un, un, un] [(.ref b2)])) X2.here hx rfl (hb hby at_30) rfl rfl (l' := #[iv fl, iv xx, iv cc, iv (0 : Int32), iv (((fl.toUInt32 >>> ((1 : Int32) &&& 31).toUInt32).toInt32) &&& (3 : Int32)), iv rr1, rv b2, un, un]) rfl) ?_
    show Ends p.tables e below G (T2.setTop (mkF m 32 #[iv fl, iv xx, iv cc, iv (0 : Int32), iv (((fl.toUInt32 >>> ((1 : Int32) &&& 31).toUInt32).toInt32) &&& (3 : Int32)), iv rr1, rv b2, un, un] []))
    refine Ends.go (fun _ => XS.aload X2.here hx rfl (hb hby at_32) rfl rfl) ?_
    show Ends p.tables e below G (T2.setTop (mkF m 34 #[iv fl, iv xx, iv cc, iv (0 : Int32), iv (((fl.toUInt32 >>> ((1 : Int32) &&& 31).toUInt32).toInt32) &&& (3 : Int32)), iv rr1, rv b2, un, un] [(.ref b2)]))
    refine Ends.go (fun _ => XS.iconst X2.here hx rfl (hb hby at_34)) ?_
    show Ends p.tables e below G (T2.setTop (mkF m 35 #[iv fl, iv xx, iv cc, iv (0 : Int32), iv (((fl.toUInt32 >>> ((1 : Int32) &&& 31).toUInt32).toInt32) &&& (3 : Int32)), iv rr1, rv b2, un, un] [(.int (0 : Int32)), (.ref b2)]))
    refine Ends.go (fun _ => XS.iloadN X2.here hx rfl (hb hby at_35) rfl) ?_
    show Ends p.tables e below G (T2.setTop (mkF m 36 #[iv fl, iv xx, iv cc, iv (0 : Int32), iv (((fl.toUInt32 >>> ((1 : Int32) &&& 31).toUInt32).toInt32) &&& (3 : Int32)), iv rr1, rv b2, un, un] [(.int cc), (.int (0 : Int32)), (.ref b2)]))
    refine Ends.go (fun _ => XS.sipush X2.here hx rfl (hb hby at_36)) ?_
    show Ends p.tables e below G (T2.setTop (mkF m 39 #[iv fl, iv xx, iv cc, iv (0 : Int32), iv (((fl.toUInt32 >>> ((1 : Int32) &&& 31).toUInt32).toInt32) &&& (3 : Int32)), iv rr1, rv b2, un, un] [(.int (255 : Int32)), (.int cc), (.int (0 : Int32)), (.ref b2)]))
    refine Ends.go (fun _ => XS.iand X2.here hx rfl (hb hby at_39) rfl) ?_
    show Ends p.tables e below G (T2.setTop (mkF m 40 #[iv fl, iv xx, iv cc, iv (0 : Int32), iv (((fl.toUInt32 >>> ((1 : Int32) &&& 31).toUInt32).toInt32) &&& (3 : Int32)), iv rr1, rv b2, un, un] [(.int (cc &&& (255 : Int32))), (.int (0 : Int32)), (.ref b2)]))
    refine Ends.go (fun _ => XS.i2c X2.here hx rfl (hb hby at_40) rfl) ?_
    show Ends p.tables e below G (T2.setTop (mkF m 41 #[iv fl, iv xx, iv cc, iv (0 : Int32), iv (((fl.toUInt32 >>> ((1 : Int32) &&& 31).toUInt32).toInt32) &&& (3 : Int32)), iv rr1, rv b2, un, un] [(.int ((cc &&& (255 : Int32)).toUInt32.toUInt16.toUInt32.toInt32)), (.int (0 : Int32)), (.ref b2)]))
    obtain ⟨T3, h3, X3, e3, W3, V3, st3⟩ := AF.stC V2 X2 hx hZ e2 (j := (0 : Int32)) (i := 0) (by decide) (by decide) (g := (mkF m 41 #[iv fl, iv xx, iv cc, iv (0 : Int32), iv (((fl.toUInt32 >>> ((1 : Int32) &&& 31).toUInt32).toInt32) &&& (3 : Int32)), iv rr1, rv b2, un, un] [(.int ((cc &&& (255 : Int32)).toUInt32.toUInt16.toUInt32.toInt32)), (.int (0 : Int32)), (.ref b2)])) rfl rfl (hb hby at_41)
    have sfo3 : Safe Z EL s.vm _ b2 := (own_safeA hZ.alike V2 (by decide))
    have sz3 := Nat.le_trans sz2 (Nat.le_of_eq W3.size.symm)
    have N3 := Fr.snoc X3 N1 g_b2
    have O3 := Old.wr O2 W3 g_b2
    have hkS := Nat.le_trans hkS (Nat.le_of_eq W3.size.symm)
    have C3 := CHr.trans C2 (CHr.wr W3 sfo3 C2.1)
    refine Ends.go (fun _ => st3 _) ?_
    show Ends p.tables e below G (T3.setTop (mkF m 42 #[iv fl, iv xx, iv cc, iv (0 : Int32), iv (((fl.toUInt32 >>> ((1 : Int32) &&& 31).toUInt32).toInt32) &&& (3 : Int32)), iv rr1, rv b2, un, un] []))
    obtain ⟨T4, h4, X4, e4, E4, A4, D4, U4, st4⟩ := newO X3 hx hZ hown (hw _ (List.mem_of_getElem? (i := 5) rfl)) (hw _ (List.mem_of_getElem? (i := 6) rfl)) (hw _ (List.mem_of_getElem? (i := 7) rfl)) e3 (g := (mkF m 42 #[iv fl, iv xx, iv cc, iv (0 : Int32), iv (((fl.toUInt32 >>> ((1 : Int32) &&& 31).toUInt32).toInt32) &&& (3 : Int32)), iv rr1, rv b2, un, un] [])) rfl (hb hby at_42) (by decide) (by decide)
    obtain ⟨b4, g4⟩ : ∃ z, z = h3.size := ⟨_, rfl⟩
    rw [← g4] at A4 D4 U4 st4
    have g_b4 : n0 ≤ b4 := Nat.le_trans sz3 (Nat.le_of_eq g4.symm)
    have ne_b2_b4 : b2 ≠ b4 := Nat.ne_of_lt (Nat.lt_of_lt_of_le (AF.lt V3) (Nat.le_of_eq g4.symm))
    have sfb4 : Safe Z EL s.vm h3 b4 := Safe.new (Nat.le_of_eq g4.symm)
    have f4_V_b2 := AF.ext V3 E4
    have sz4 := Nat.le_trans sz3 E4.1
    have O4 := Old.ext O3 E4
    have hkS := Nat.le_trans hkS E4.1
    have sf4_b4 := Safe.ext E4 C3.1 sfb4
    have C4 := CHr.trans C3 (CHr.ext E4 C3.1)
    have F4_coder : Fld Z h4 b4 "java/lang/String" "coder" "B" (.int (0 : Int32)) := D4 (Or.inr (hw _ (List.mem_of_getElem? (i := 31) rfl))) (ty := .byte) (by decide)
    have F4_value : Fld Z h4 b4 "java/lang/String" "value" "[B" .null := D4 (Or.inr (hw _ (List.mem_of_getElem? (i := 33) rfl))) (ty := (.array .byte)) (by decide)
    refine Ends.go (fun _ => st4 _) ?_
    show Ends p.tables e below G (T4.setTop (mkF m 45 #[iv fl, iv xx, iv cc, iv (0 : Int32), iv (((fl.toUInt32 >>> ((1 : Int32) &&& 31).toUInt32).toInt32) &&& (3 : Int32)), iv rr1, rv b2, un, un] [(.ref b4)]))
    refine Ends.go (fun _ => XS.dup X4.here hx rfl (hb hby at_45) rfl rfl) ?_
    show Ends p.tables e below G (T4.setTop (mkF m 46 #[iv fl, iv xx, iv cc, iv (0 : Int32), iv (((fl.toUInt32 >>> ((1 : Int32) &&& 31).toUInt32).toInt32) &&& (3 : Int32)), iv rr1, rv b2, un, un] [(.ref b4), (.ref b4)]))
    refine Ends.go (fun _ => XS.aload X4.here hx rfl (hb hby at_46) rfl rfl) ?_
    show Ends p.tables e below G (T4.setTop (mkF m 48 #[iv fl, iv xx, iv cc, iv (0 : Int32), iv (((fl.toUInt32 >>> ((1 : Int32) &&& 31).toUInt32).toInt32) &&& (3 : Int32)), iv rr1, rv b2, un, un] [(.ref b2), (.ref b4), (.ref b4)]))
    obtain ⟨cA, AA, szA, elA⟩ := id f4_V_b2
    obtain ⟨ty_, hp_⟩ := own_ch1 szA (elA 0 (by decide)) (fits_nar_char _) (own_c255 cc)
    obtain ⟨v5, vm5, ⟨T5, L5, k5, n5⟩, -, X5, po5, st5⟩ := X4.specialBack hx (y := (⟨"java/lang/String", "<init>", "([C)V"⟩ : MethodName)) rfl hown (mvT hZ (hw _ (List.mem_of_getElem? (i := 8) rfl))) (mvT hZ (hw _ (List.mem_of_getElem? (i := 9) rfl))) (mvT hZ (hw _ (List.mem_of_getElem? (i := 10) rfl))) (by decide) (StrChars.Road.back (W := 1) hZ (fun d hd => hw d (own_words d hd)) (kI := 4) (hw _ (List.mem_of_getElem? (i := 6) rfl)) A4 F4_value F4_coder AA ty_ (Sta.ext O4.2 SC) hzc (by rw [szA]; decide) (by rw [szA]; decide) hp_ (by decide) (by decide)) (g := (mkF m 48 #[iv fl, iv xx, iv cc, iv (0 : Int32), iv (((fl.toUInt32 >>> ((1 : Int32) &&& 31).toUInt32).toInt32) &&& (3 : Int32)), iv rr1, rv b2, un, un] [(.ref b2), (.ref b4), (.ref b4)])) rfl (by rw [hml]; rfl) (Steps.refl _) (a := b4) (argsL := [(.ref b2)]) (rest := [(.ref b4)]) (lenOf pd_27 rfl) rfl (by show 2 * 0 + _ ≤ _; exact Nat.le_of_eq rfl) (hb hby at_48) (fun _ _ => ⟨rfl, e4, (by decide : (((0 + 0) + 1) + 1) + 1 ≤ _), (by rw [szA]; decide : (((0 + 0) + 1) + 4) + cA.slots.size ≤ _)⟩)
    dsimp only [Pt.U, Pt.locs, Pt.cells, Pt.slots] at X5 st5 po5
    obtain ⟨Lc5, hQ5, l5, y5, z5⟩ := po5
    rw [szA] at z5
    subst l5 y5 z5
    obtain ⟨rfl, hb5, Kq5, hsz5, Eq5, Vq5, Cq5, ⟨Vc5, AV5, -, -, szV5, elV5⟩, -⟩ := hQ5
    have N5 := Fr.app N3 (fun y hy => by rw [hb5 y hy]; exact g_b4 : Fr n0 Lc5)
    have Bt5 := own_ba1 AV5 (szV5.trans szA) (elV5 0 (by rw [szA]; decide)) (StrChars.fits_lo8 _)
    obtain ⟨td5, gtd5⟩ : ∃ z, z = h4.size := ⟨_, rfl⟩
    rw [← gtd5] at Vq5 AV5 Bt5
    have hs5 : ∀ y ∈ ([b4] : List Addr), Safe Z EL s.vm h4 y := (sfS sf4_b4 sf0)
    have f5_V_b2 := AF.keep f4_V_b2 Kq5 (ninS ne_b2_b4 nin0)
    have f5_E_b4 := Exa.keep A4 Kq5
    have sz5 := Nat.le_trans sz4 (Kq5).1
    have O5 := Old.keep O4 Kq5 (allS g_b4 all0)
    have hkS := Nat.le_trans hkS (Kq5).1
    have sf5_b4 := Safe.keep Kq5 hs5 C4.1 sf4_b4
    have C5 := CHr.trans C4 (CHr.keep Kq5 hs5 C4.1)
    refine Ends.go (fun _ => st5.trans) ?_
    show Ends p.tables e below G (T5.setTop (mkF m 51 #[iv fl, iv xx, iv cc, iv (0 : Int32), iv (((fl.toUInt32 >>> ((1 : Int32) &&& 31).toUInt32).toInt32) &&& (3 : Int32)), iv rr1, rv b2, un, un] [(.ref b4)]))
    refine Ends.go (fun _ => XS.astore (g := (mkF m 51 #[iv fl, iv xx, iv cc, iv (0 : Int32), iv (((fl.toUInt32 >>> ((1 : Int32) &&& 31).toUInt32).toInt32) &&& (3 : Int32)), iv rr1, rv b2, un, un] [(.ref b4)])) X5.here hx rfl (hb hby at_51) rfl rfl (l' := #[iv fl, iv xx, iv cc, iv (0 : Int32), iv (((fl.toUInt32 >>> ((1 : Int32) &&& 31).toUInt32).toInt32) &&& (3 : Int32)), iv rr1, rv b2, rv b4, un]) rfl) ?_
    show Ends p.tables e below G (T5.setTop (mkF m 53 #[iv fl, iv xx, iv cc, iv (0 : Int32), iv (((fl.toUInt32 >>> ((1 : Int32) &&& 31).toUInt32).toInt32) &&& (3 : Int32)), iv rr1, rv b2, rv b4, un] []))
    obtain ⟨T6, h6, X6, e6, E6, A6, D6, U6, st6⟩ := newO X5 hx hZ hown (hw _ (List.mem_of_getElem? (i := 34) rfl)) (hw _ (List.mem_of_getElem? (i := 35) rfl)) (hw _ (List.mem_of_getElem? (i := 36) rfl)) rfl (g := (mkF m 53 #[iv fl, iv xx, iv cc, iv (0 : Int32), iv (((fl.toUInt32 >>> ((1 : Int32) &&& 31).toUInt32).toInt32) &&& (3 : Int32)), iv rr1, rv b2, rv b4, un] [])) rfl (hb hby at_53) (by decide) (by decide)
    obtain ⟨b6, g6⟩ : ∃ z, z = T5.heap.size := ⟨_, rfl⟩
    rw [← g6] at A6 D6 U6 st6
    have g_b6 : n0 ≤ b6 := Nat.le_trans sz5 (Nat.le_of_eq g6.symm)
    have ne_b4_b6 : b4 ≠ b6 := Nat.ne_of_lt (Nat.lt_of_lt_of_le Eq5.lt (Nat.le_of_eq g6.symm))
    have ne_td5_b6 : td5 ≠ b6 := Nat.ne_of_lt (Nat.lt_of_lt_of_le (BA.lt Bt5) (Nat.le_of_eq g6.symm))
    have sfb6 : Safe Z EL s.vm T5.heap b6 := Safe.new (Nat.le_of_eq g6.symm)
    have f6_E_b4 := Eq5.ext E6
    have f6_F_b4_value := Vq5.ext E6
    have f6_F_b4_coder := Cq5.ext E6
    have f6_P_td5 := BA.ext Bt5 E6
    have sz6 := Nat.le_trans sz5 E6.1
    have O6 := Old.ext O5 E6
    have hkS := Nat.le_trans hkS E6.1
    have sf6_b4 := Safe.ext E6 C5.1 sf5_b4
    have sf6_b6 := Safe.ext E6 C5.1 sfb6
    have C6 := CHr.trans C5 (CHr.ext E6 C5.1)
    have F6_cause : Fld Z h6 b6 "java/lang/Throwable" "cause" "Ljava/lang/Throwable;" .null := D6 (Or.inl (hw _ (List.mem_of_getElem? (i := 211) rfl))) (ty := (.object "java/lang/Throwable")) (by decide)
    have F6_stackTrace : Fld Z h6 b6 "java/lang/Throwable" "stackTrace" "[Ljava/lang/StackTraceElement;" .null := D6 (Or.inl (hw _ (List.mem_of_getElem? (i := 214) rfl))) (ty := (.array (.object "java/lang/StackTraceElement"))) (by decide)
    have F6_suppressedExceptions : Fld Z h6 b6 "java/lang/Throwable" "suppressedExceptions" "Ljava/util/List;" .null := D6 (Or.inl (hw _ (List.mem_of_getElem? (i := 217) rfl))) (ty := (.object "java/util/List")) (by decide)
    have F6_detailMessage : Fld Z h6 b6 "java/lang/Throwable" "detailMessage" "Ljava/lang/String;" .null := D6 (Or.inl (hw _ (List.mem_of_getElem? (i := 241) rfl))) (ty := (.object "java/lang/String")) (by decide)
    have F6_backtrace : Fld Z h6 b6 "java/lang/Throwable" "backtrace" "Ljava/lang/Object;" .null := D6 (Or.inl (hw _ (List.mem_of_getElem? (i := 242) rfl))) (ty := (.object "java/lang/Object")) (by decide)
    have F6_depth : Fld Z h6 b6 "java/lang/Throwable" "depth" "I" (.int (0 : Int32)) := D6 (Or.inl (hw _ (List.mem_of_getElem? (i := 243) rfl))) (ty := .int) (by decide)
    have F6_channel : Fld Z h6 b6 "com/example/dispatchbook/dispatchbook/amqp/BrokerClosedException" "channel" "Z" (.int (0 : Int32)) := D6 (Or.inr (hw _ (List.mem_of_getElem? (i := 247) rfl))) (ty := .boolean) (by decide)
    have F6_replyCode : Fld Z h6 b6 "com/example/dispatchbook/dispatchbook/amqp/BrokerClosedException" "replyCode" "I" (.int (0 : Int32)) := D6 (Or.inr (hw _ (List.mem_of_getElem? (i := 249) rfl))) (ty := .int) (by decide)
    refine Ends.go (fun _ => st6 _) ?_
    show Ends p.tables e below G (T6.setTop (mkF m 56 #[iv fl, iv xx, iv cc, iv (0 : Int32), iv (((fl.toUInt32 >>> ((1 : Int32) &&& 31).toUInt32).toInt32) &&& (3 : Int32)), iv rr1, rv b2, rv b4, un] [(.ref b6)]))
    refine Ends.go (fun _ => XS.dup X6.here hx rfl (hb hby at_56) rfl rfl) ?_
    show Ends p.tables e below G (T6.setTop (mkF m 57 #[iv fl, iv xx, iv cc, iv (0 : Int32), iv (((fl.toUInt32 >>> ((1 : Int32) &&& 31).toUInt32).toInt32) &&& (3 : Int32)), iv rr1, rv b2, rv b4, un] [(.ref b6), (.ref b6)]))
    refine Ends.go (fun _ => XS.iloadN X6.here hx rfl (hb hby at_57) rfl) ?_
    show Ends p.tables e below G (T6.setTop (mkF m 58 #[iv fl, iv xx, iv cc, iv (0 : Int32), iv (((fl.toUInt32 >>> ((1 : Int32) &&& 31).toUInt32).toInt32) &&& (3 : Int32)), iv rr1, rv b2, rv b4, un] [(.int (0 : Int32)), (.ref b6), (.ref b6)]))
    refine Ends.go (fun _ => XS.iload X6.here hx rfl (hb hby at_58) rfl) ?_
    show Ends p.tables e below G (T6.setTop (mkF m 60 #[iv fl, iv xx, iv cc, iv (0 : Int32), iv (((fl.toUInt32 >>> ((1 : Int32) &&& 31).toUInt32).toInt32) &&& (3 : Int32)), iv rr1, rv b2, rv b4, un] [(.int rr1), (.int (0 : Int32)), (.ref b6), (.ref b6)]))
    refine Ends.go (fun _ => XS.aload X6.here hx rfl (hb hby at_60) rfl rfl) ?_
    show Ends p.tables e below G (T6.setTop (mkF m 62 #[iv fl, iv xx, iv cc, iv (0 : Int32), iv (((fl.toUInt32 >>> ((1 : Int32) &&& 31).toUInt32).toInt32) &&& (3 : Int32)), iv rr1, rv b2, rv b4, un] [(.ref b4), (.int rr1), (.int (0 : Int32)), (.ref b6), (.ref b6)]))
    obtain ⟨_, _, ⟨T7, L7, k7, n7⟩, -, X7, hS, gS7, ⟨Lc7, hQ7, l7, y7, z7, -⟩, st7⟩ := X6.specialBackS hx (y := (⟨"com/example/dispatchbook/dispatchbook/amqp/BrokerClosedException", "<init>", "(ZILjava/lang/String;)V"⟩ : MethodName)) rfl hown (mvT hZ (hw _ (List.mem_of_getElem? (i := 37) rfl))) (mvT hZ (hw _ (List.mem_of_getElem? (i := 38) rfl))) (mvT hZ (hw _ (List.mem_of_getElem? (i := 39) rfl))) (by decide) (backOfSKH (W := 1) (s := s) (vm0 := s.vm) (rm8 l hl_ Z a0 hw [] b6 (0 : Int32) rr1 b4 td5 dst a1 a2 DC1 DC2 uU uS zc h6 n0 sz6 O6 SC hzc TB1 TB2 SU SS ⟨f6_E_b4, f6_F_b4_value, f6_F_b4_coder, f6_P_td5⟩ (by decide) A6 U6 F6_backtrace F6_detailMessage F6_channel F6_replyCode F6_cause F6_stackTrace F6_suppressedExceptions g_b6) hZ (hw _ (List.mem_of_getElem? (i := 39) rfl)) (hw _ (List.mem_of_getElem? (i := 36) rfl)) (by decide) (by decide) hEL C6.1 hTK hBelow) (g := (mkF m 62 #[iv fl, iv xx, iv cc, iv (0 : Int32), iv (((fl.toUInt32 >>> ((1 : Int32) &&& 31).toUInt32).toInt32) &&& (3 : Int32)), iv rr1, rv b2, rv b4, un] [(.ref b4), (.int rr1), (.int (0 : Int32)), (.ref b6), (.ref b6)])) rfl (by rw [hml]; rfl) (Steps.refl _) (a := b6) (argsL := [(.int (0 : Int32)), (.int rr1), (.ref b4)]) (rest := [(.ref b6)]) (lenOf pd_28 rfl) rfl (by show 2 * 0 + _ ≤ _; exact Nat.le_of_eq rfl) (hb hby at_62) (fun _ _ => ⟨rfl, e6, (by decide : (((((0 + 0) + 1) + 1) + 1) + 1) + 24 ≤ _), (by decide : (((((0 + 0) + 1) + 4) + 1) + 8) + 5800 ≤ _)⟩)
    dsimp only [Pt.U, Pt.locs, Pt.cells, Pt.slots] at X7 hS gS7 l7 y7 z7 st7 hQ7
    subst l7 y7 z7
    obtain ⟨rfl, N7q, Kq7, Eq7, Fq7, Gq7⟩ := hQ7
    have N7 := Fr.app N5 N7q
    have hZ : Z.Warmed39 (s.setVm T7.vm).vm := State.Warmed39.trans hZ hS.1
    have hown : (s.setVm T7.vm).vm.findClass "com/example/dispatchbook/dispatchbook/amqp/BrokerClosedExceptionRefusedMessagePinLaw" = some m.cls := (hS.1.alike.findClass _ _).trans hown
    have sz7 := Nat.le_trans sz6 Kq7.1
    refine Ends.go (fun _ => st7.trans) ?_
    show Ends p.tables e below G (T7.setTop (mkF m 65 #[iv fl, iv xx, iv cc, iv (0 : Int32), iv (((fl.toUInt32 >>> ((1 : Int32) &&& 31).toUInt32).toInt32) &&& (3 : Int32)), iv rr1, rv b2, rv b4, un] [(.ref b6)]))
    refine Ends.go (fun _ => XS.astore (g := (mkF m 65 #[iv fl, iv xx, iv cc, iv (0 : Int32), iv (((fl.toUInt32 >>> ((1 : Int32) &&& 31).toUInt32).toInt32) &&& (3 : Int32)), iv rr1, rv b2, rv b4, un] [(.ref b6)])) X7.here hx rfl (hb hby at_65) rfl rfl (l' := #[iv fl, iv xx, iv cc, iv (0 : Int32), iv (((fl.toUInt32 >>> ((1 : Int32) &&& 31).toUInt32).toInt32) &&& (3 : Int32)), iv rr1, rv b2, rv b4, rv b6]) rfl) ?_
    show Ends p.tables e below G (T7.setTop (mkF m 67 #[iv fl, iv xx, iv cc, iv (0 : Int32), iv (((fl.toUInt32 >>> ((1 : Int32) &&& 31).toUInt32).toInt32) &&& (3 : Int32)), iv rr1, rv b2, rv b4, rv b6] []))
    refine Ends.go (fun _ => XS.aload X7.here hx rfl (hb hby at_67) rfl rfl) ?_
    show Ends p.tables e below G (T7.setTop (mkF m 69 #[iv fl, iv xx, iv cc, iv (0 : Int32), iv (((fl.toUInt32 >>> ((1 : Int32) &&& 31).toUInt32).toInt32) &&& (3 : Int32)), iv rr1, rv b2, rv b4, rv b6] [(.ref b6)]))
    obtain ⟨cq8, kq8, q8a, q8b, q8c⟩ := isOf hZ rfl Eq7
    obtain ⟨_, _, ⟨T8, L8, k8, n8⟩, -, X8, ⟨Lc8, hQ8, l8, y8, z8⟩, st8⟩ := X7.virtualBack hx (y := (⟨"com/example/dispatchbook/dispatchbook/amqp/BrokerClosedException", "refusedMessage", "()Z"⟩ : MethodName)) (z := (⟨"com/example/dispatchbook/dispatchbook/amqp/BrokerClosedException", "refusedMessage", "()Z"⟩ : MethodName)) hown (mvT hZ (hw _ (List.mem_of_getElem? (i := 250) rfl))) (mvT hZ (hw _ (List.mem_of_getElem? (i := 251) rfl))) (notFace_of_selects (args := #[]) (mvT hZ (hw _ (List.mem_of_getElem? (i := 253) rfl)))) (mvT hZ (hw _ (List.mem_of_getElem? (i := 253) rfl))) (mvT hZ (hw _ (List.mem_of_getElem? (i := 252) rfl))) (by decide) (backOf (W := 0) (rm43 l Z a0 hw [] b6 (0 : Int32) rr1 T7.heap n0 sz7 Fq7 Gq7) hZ (hw _ (List.mem_of_getElem? (i := 254) rfl)) (hw _ (List.mem_of_getElem? (i := 36) rfl)) (by decide) (by decide)) q8a q8c (g := (mkF m 69 #[iv fl, iv xx, iv cc, iv (0 : Int32), iv (((fl.toUInt32 >>> ((1 : Int32) &&& 31).toUInt32).toInt32) &&& (3 : Int32)), iv rr1, rv b2, rv b4, rv b6] [(.ref b6)])) rfl (by rw [hml]; rfl) (Steps.refl _) (argsL := []) (rest := []) (lenOf pd_13 rfl) rfl (by show 2 * 0 + _ ≤ _; exact Nat.le_of_eq rfl) (hb hby at_69) (fun _ _ => ⟨rfl, rfl, (by decide : ((((((0 + 0) + 1) + 1) + 1) + 1) + 24) + 0 ≤ _), (by decide : ((((((0 + 0) + 1) + 4) + 1) + 8) + 5800) + 0 ≤ _)⟩)
    dsimp only [Pt.U, Pt.locs, Pt.cells, Pt.slots] at X8 l8 y8 z8 st8 hQ8
    subst l8 y8 z8
    obtain ⟨rfl, N8q, e8⟩ := hQ8
    have N8 := Fr.app N7 N8q
    refine Ends.go (fun _ => st8.trans) ?_
    show Ends p.tables e below G (T8.setTop (mkF m 72 #[iv fl, iv xx, iv cc, iv (0 : Int32), iv (((fl.toUInt32 >>> ((1 : Int32) &&& 31).toUInt32).toInt32) &&& (3 : Int32)), iv rr1, rv b2, rv b4, rv b6] [(.int (own_E (0 : Int32) rr1))]))
    refine Ends.go (fun _ => XS.iloadN X8.here hx rfl (hb hby at_72) rfl) ?_
    show Ends p.tables e below G (T8.setTop (mkF m 73 #[iv fl, iv xx, iv cc, iv (0 : Int32), iv (((fl.toUInt32 >>> ((1 : Int32) &&& 31).toUInt32).toInt32) &&& (3 : Int32)), iv rr1, rv b2, rv b4, rv b6] [(.int (0 : Int32)), (.int (own_E (0 : Int32) rr1))]))
    refine Ends.go (fun _ => XS.iload X8.here hx rfl (hb hby at_73) rfl) ?_
    show Ends p.tables e below G (T8.setTop (mkF m 75 #[iv fl, iv xx, iv cc, iv (0 : Int32), iv (((fl.toUInt32 >>> ((1 : Int32) &&& 31).toUInt32).toInt32) &&& (3 : Int32)), iv rr1, rv b2, rv b4, rv b6] [(.int rr1), (.int (0 : Int32)), (.int (own_E (0 : Int32) rr1))]))
    obtain ⟨_, _, ⟨T9, L9, k9, n9⟩, -, X9, ⟨Lc9, hQ9, l9, y9, z9⟩, st9⟩ := Jvm.LawKit.callS X8 hx (y := (⟨"com/example/dispatchbook/dispatchbook/amqp/BrokerClosedExceptionRefusedMessagePinLaw", "expected", "(ZI)Z"⟩ : MethodName)) hown (mvT hZ (hw _ (List.mem_of_getElem? (i := 255) rfl))) (mvT hZ (hw _ (List.mem_of_getElem? (i := 256) rfl))) (mvT hZ (hw _ (List.mem_of_getElem? (i := 2) rfl))) (mvT hZ (hw _ (List.mem_of_getElem? (i := 257) rfl))) (by decide) (backOf (W := 1) (rm44 l Z a0 hw [] (0 : Int32) rr1 T7.heap n0 sz7) hZ (hw _ (List.mem_of_getElem? (i := 257) rfl)) (hw _ (List.mem_of_getElem? (i := 2) rfl)) (by decide) (by decide)) (g := (mkF m 75 #[iv fl, iv xx, iv cc, iv (0 : Int32), iv (((fl.toUInt32 >>> ((1 : Int32) &&& 31).toUInt32).toInt32) &&& (3 : Int32)), iv rr1, rv b2, rv b4, rv b6] [(.int rr1), (.int (0 : Int32)), (.int (own_E (0 : Int32) rr1))])) rfl (by rw [hml]; rfl) (argsL := [(.int (0 : Int32)), (.int rr1)]) (rest := [(.int (own_E (0 : Int32) rr1))]) (lenOf pd_29 rfl) rfl (by show 2 * 0 + _ ≤ _; exact Nat.le_of_eq rfl) (hb hby at_75) (fun _ _ => ⟨rfl, e8, (by decide : (((((((0 + 0) + 1) + 1) + 1) + 1) + 24) + 0) + 0 ≤ _), (by decide : (((((((0 + 0) + 1) + 4) + 1) + 8) + 5800) + 0) + 0 ≤ _)⟩)
    dsimp only [Pt.U, Pt.locs, Pt.cells, Pt.slots] at X9 l9 y9 z9 st9 hQ9
    subst l9 y9 z9
    obtain ⟨rfl, N9q, e9⟩ := hQ9
    have N9 := Fr.app N8 N9q
    refine Ends.go (fun _ => st9 _) ?_
    show Ends p.tables e below G (T9.setTop (mkF m 78 #[iv fl, iv xx, iv cc, iv (0 : Int32), iv (((fl.toUInt32 >>> ((1 : Int32) &&& 31).toUInt32).toInt32) &&& (3 : Int32)), iv rr1, rv b2, rv b4, rv b6] [(.int (own_E (0 : Int32) rr1)), (.int (own_E (0 : Int32) rr1))]))
    refine Ends.go (fun _ => XS.icmpNo X9.here hx rfl (hb hby at_78) rfl (teq (rfl : (own_E (0 : Int32) rr1) = (own_E (0 : Int32) rr1))).2) ?_
    show Ends p.tables e below G (T9.setTop (mkF m 81 #[iv fl, iv xx, iv cc, iv (0 : Int32), iv (((fl.toUInt32 >>> ((1 : Int32) &&& 31).toUInt32).toInt32) &&& (3 : Int32)), iv rr1, rv b2, rv b4, rv b6] []))
    refine Ends.go (fun _ => XS.iconst X9.here hx rfl (hb hby at_81)) ?_
    show Ends p.tables e below G (T9.setTop (mkF m 82 #[iv fl, iv xx, iv cc, iv (0 : Int32), iv (((fl.toUInt32 >>> ((1 : Int32) &&& 31).toUInt32).toInt32) &&& (3 : Int32)), iv rr1, rv b2, rv b4, rv b6] [(.int (1 : Int32))]))
    refine Ends.go (fun _ => XS.goto X9.here hx rfl (pc0 := 82) (pc' := 86) rfl (hb hby at_82) (by decide) (by decide)) ?_
    show Ends p.tables e below G (T9.setTop (mkF m 86 #[iv fl, iv xx, iv cc, iv (0 : Int32), iv (((fl.toUInt32 >>> ((1 : Int32) &&& 31).toUInt32).toInt32) &&& (3 : Int32)), iv rr1, rv b2, rv b4, rv b6] [(.int (1 : Int32))]))
    refine own_finWS X9 hS (by rw [e9]; exact Nat.le_refl _) hx Bd.returns (by simp) Bd.notSynchronized (hb hby at_86) (Q := (Q0 Z fl xx cc dst a1 a2 DC1 DC2 uU uS zc h0 n0)) hG (by decide) (by decide) ?_
    exact ⟨rfl, N9⟩
  · refine Ends.go (fun _ => XS.ifNo X0.here hx rfl (hb hby at_3) rfl ((if0 _ _).trans (feq (hfl : ¬ ((fl &&& (1 : Int32)) = (0 : Int32)))).1)) ?_
    show Ends p.tables e below G (s₁.setTop (mkF m 6 #[iv fl, iv xx, iv cc, un, un, un, un, un, un] []))
    refine Ends.go (fun _ => XS.iconst X0.here hx rfl (hb hby at_6)) ?_
    show Ends p.tables e below G (s₁.setTop (mkF m 7 #[iv fl, iv xx, iv cc, un, un, un, un, un, un] [(.int (1 : Int32))]))
    refine Ends.go (fun _ => XS.goto X0.here hx rfl (pc0 := 7) (pc' := 11) rfl (hb hby at_7) (by decide) (by decide)) ?_
    show Ends p.tables e below G (s₁.setTop (mkF m 11 #[iv fl, iv xx, iv cc, un, un, un, un, un, un] [(.int (1 : Int32))]))
    refine Ends.go (fun _ => XS.istoreN (g := (mkF m 11 #[iv fl, iv xx, iv cc, un, un, un, un, un, un] [(.int (1 : Int32))])) X0.here hx rfl (hb hby at_11) rfl (l' := #[iv fl, iv xx, iv cc, iv (1 : Int32), un, un, un, un, un]) rfl) ?_
    show Ends p.tables e below G (s₁.setTop (mkF m 12 #[iv fl, iv xx, iv cc, iv (1 : Int32), un, un, un, un, un] []))
    refine Ends.go (fun _ => XS.iloadN X0.here hx rfl (hb hby at_12) rfl) ?_
    show Ends p.tables e below G (s₁.setTop (mkF m 13 #[iv fl, iv xx, iv cc, iv (1 : Int32), un, un, un, un, un] [(.int fl)]))
    refine Ends.go (fun _ => XS.iconst X0.here hx rfl (hb hby at_13)) ?_
    show Ends p.tables e below G (s₁.setTop (mkF m 14 #[iv fl, iv xx, iv cc, iv (1 : Int32), un, un, un, un, un] [(.int (1 : Int32)), (.int fl)]))
    refine Ends.go (fun _ => XS.iushr X0.here hx rfl (hb hby at_14) rfl) ?_
    show Ends p.tables e below G (s₁.setTop (mkF m 15 #[iv fl, iv xx, iv cc, iv (1 : Int32), un, un, un, un, un] [(.int ((fl.toUInt32 >>> ((1 : Int32) &&& 31).toUInt32).toInt32))]))
    refine Ends.go (fun _ => XS.iconst X0.here hx rfl (hb hby at_15)) ?_
    show Ends p.tables e below G (s₁.setTop (mkF m 16 #[iv fl, iv xx, iv cc, iv (1 : Int32), un, un, un, un, un] [(.int (3 : Int32)), (.int ((fl.toUInt32 >>> ((1 : Int32) &&& 31).toUInt32).toInt32))]))
    refine Ends.go (fun _ => XS.iand X0.here hx rfl (hb hby at_16) rfl) ?_
    show Ends p.tables e below G (s₁.setTop (mkF m 17 #[iv fl, iv xx, iv cc, iv (1 : Int32), un, un, un, un, un] [(.int (((fl.toUInt32 >>> ((1 : Int32) &&& 31).toUInt32).toInt32) &&& (3 : Int32)))]))
    refine Ends.go (fun _ => XS.istore (g := (mkF m 17 #[iv fl, iv xx, iv cc, iv (1 : Int32), un, un, un, un, un] [(.int (((fl.toUInt32 >>> ((1 : Int32) &&& 31).toUInt32).toInt32) &&& (3 : Int32)))])) X0.here hx rfl (hb hby at_17) rfl (l' := #[iv fl, iv xx, iv cc, iv (1 : Int32), iv (((fl.toUInt32 >>> ((1 : Int32) &&& 31).toUInt32).toInt32) &&& (3 : Int32)), un, un, un, un]) rfl) ?_
    show Ends p.tables e below G (s₁.setTop (mkF m 19 #[iv fl, iv xx, iv cc, iv (1 : Int32), iv (((fl.toUInt32 >>> ((1 : Int32) &&& 31).toUInt32).toInt32) &&& (3 : Int32)), un, un, un, un] []))
    refine Ends.go (fun _ => XS.iload X0.here hx rfl (hb hby at_19) rfl) ?_
    show Ends p.tables e below G (s₁.setTop (mkF m 21 #[iv fl, iv xx, iv cc, iv (1 : Int32), iv (((fl.toUInt32 >>> ((1 : Int32) &&& 31).toUInt32).toInt32) &&& (3 : Int32)), un, un, un, un] [(.int (((fl.toUInt32 >>> ((1 : Int32) &&& 31).toUInt32).toInt32) &&& (3 : Int32)))]))
    refine Ends.go (fun _ => XS.iloadN X0.here hx rfl (hb hby at_21) rfl) ?_
    show Ends p.tables e below G (s₁.setTop (mkF m 22 #[iv fl, iv xx, iv cc, iv (1 : Int32), iv (((fl.toUInt32 >>> ((1 : Int32) &&& 31).toUInt32).toInt32) &&& (3 : Int32)), un, un, un, un] [(.int xx), (.int (((fl.toUInt32 >>> ((1 : Int32) &&& 31).toUInt32).toInt32) &&& (3 : Int32)))]))
    obtain ⟨_, _, ⟨T10, L10, k10, n10⟩, -, X10, ⟨Lc10, hQ10, l10, y10, z10⟩, st10⟩ := Jvm.LawKit.callS X0 hx (y := (⟨"com/example/dispatchbook/dispatchbook/amqp/BrokerClosedExceptionRefusedMessagePinLaw", "pickCode", "(II)I"⟩ : MethodName)) hown (mvT hZ (hw _ (List.mem_of_getElem? (i := 0) rfl))) (mvT hZ (hw _ (List.mem_of_getElem? (i := 1) rfl))) (mvT hZ (hw _ (List.mem_of_getElem? (i := 2) rfl))) (mvT hZ (hw _ (List.mem_of_getElem? (i := 3) rfl))) (by decide) (backOf (W := 0) (rm1 l Z a0 hw [] (((fl.toUInt32 >>> ((1 : Int32) &&& 31).toUInt32).toInt32) &&& (3 : Int32)) xx h0 n0 Z0) hZ (hw _ (List.mem_of_getElem? (i := 3) rfl)) (hw _ (List.mem_of_getElem? (i := 2) rfl)) (by decide) (by decide)) (g := (mkF m 22 #[iv fl, iv xx, iv cc, iv (1 : Int32), iv (((fl.toUInt32 >>> ((1 : Int32) &&& 31).toUInt32).toInt32) &&& (3 : Int32)), un, un, un, un] [(.int xx), (.int (((fl.toUInt32 >>> ((1 : Int32) &&& 31).toUInt32).toInt32) &&& (3 : Int32)))])) rfl (by rw [hml]; rfl) (argsL := [(.int (((fl.toUInt32 >>> ((1 : Int32) &&& 31).toUInt32).toInt32) &&& (3 : Int32))), (.int xx)]) (rest := []) (lenOf pd_2 rfl) rfl (by show 2 * 0 + _ ≤ _; exact Nat.le_of_eq rfl) (hb hby at_22) (fun _ _ => ⟨rfl, e0, (by decide : 0 + 0 ≤ _), (by decide : 0 + 0 ≤ _)⟩)
    dsimp only [Pt.U, Pt.locs, Pt.cells, Pt.slots] at X10 l10 y10 z10 st10 hQ10
    subst l10 y10 z10
    obtain ⟨rr10, rfl, N10q, e10⟩ := hQ10
    have N10 := Fr.app N0 N10q
    refine Ends.go (fun _ => st10 _) ?_
    show Ends p.tables e below G (T10.setTop (mkF m 25 #[iv fl, iv xx, iv cc, iv (1 : Int32), iv (((fl.toUInt32 >>> ((1 : Int32) &&& 31).toUInt32).toInt32) &&& (3 : Int32)), un, un, un, un] [(.int rr10)]))
    refine Ends.go (fun _ => XS.istore (g := (mkF m 25 #[iv fl, iv xx, iv cc, iv (1 : Int32), iv (((fl.toUInt32 >>> ((1 : Int32) &&& 31).toUInt32).toInt32) &&& (3 : Int32)), un, un, un, un] [(.int rr10)])) X10.here hx rfl (hb hby at_25) rfl (l' := #[iv fl, iv xx, iv cc, iv (1 : Int32), iv (((fl.toUInt32 >>> ((1 : Int32) &&& 31).toUInt32).toInt32) &&& (3 : Int32)), iv rr10, un, un, un]) rfl) ?_
    show Ends p.tables e below G (T10.setTop (mkF m 27 #[iv fl, iv xx, iv cc, iv (1 : Int32), iv (((fl.toUInt32 >>> ((1 : Int32) &&& 31).toUInt32).toInt32) &&& (3 : Int32)), iv rr10, un, un, un] []))
    refine Ends.go (fun _ => XS.iconst X10.here hx rfl (hb hby at_27)) ?_
    show Ends p.tables e below G (T10.setTop (mkF m 28 #[iv fl, iv xx, iv cc, iv (1 : Int32), iv (((fl.toUInt32 >>> ((1 : Int32) &&& 31).toUInt32).toInt32) &&& (3 : Int32)), iv rr10, un, un, un] [(.int (1 : Int32))]))
    obtain ⟨T11, h11, k11, X11, e11, E11, A11, st11⟩ := newP X10 hx hZ (hw _ (List.mem_of_getElem? (i := 4) rfl)) e10 (g := (mkF m 28 #[iv fl, iv xx, iv cc, iv (1 : Int32), iv (((fl.toUInt32 >>> ((1 : Int32) &&& 31).toUInt32).toInt32) &&& (3 : Int32)), iv rr10, un, un, un] [(.int (1 : Int32))])) rfl (hb hby at_28) rfl (by decide) (cap := 1) (by decide) (by decide) (by decide) (by decide)
    obtain ⟨b11, g11⟩ : ∃ z, z = h0.size := ⟨_, rfl⟩
    rw [← g11] at A11 st11
    have g_b11 : n0 ≤ b11 := Nat.le_trans Z0 (Nat.le_of_eq g11.symm)
    have sz11 := Nat.le_trans Z0 E11.1
    have O11 := Old.ext O0 E11
    have hkS := Nat.le_trans hkS E11.1
    have C11 := CHr.trans C0 (CHr.ext E11 C0.1)
    have V11 : AF Z h11 b11 .char 1 (fun _ => (.int (0 : Int32))) := AF.new A11 rfl
    refine Ends.go (fun _ => st11 _) ?_
    show Ends p.tables e below G (T11.setTop (mkF m 30 #[iv fl, iv xx, iv cc, iv (1 : Int32), iv (((fl.toUInt32 >>> ((1 : Int32) &&& 31).toUInt32).toInt32) &&& (3 : Int32)), iv rr10, un, un, un] [(.ref b11)]))
    refine Ends.go (fun _ => XS.astore (g := (mkF m 30 #[iv fl, iv xx, iv cc, iv (1 : Int32), iv (((fl.toUInt32 >>> ((1 : Int32) &&& 31).toUInt32).toInt32) &&& (3 : Int32)), iv rr10, un, un, un] [(.ref b11)])) X11.here hx rfl (hb hby at_30) rfl rfl (l' := #[iv fl, iv xx, iv cc, iv (1 : Int32), iv (((fl.toUInt32 >>> ((1 : Int32) &&& 31).toUInt32).toInt32) &&& (3 : Int32)), iv rr10, rv b11, un, un]) rfl) ?_
    show Ends p.tables e below G (T11.setTop (mkF m 32 #[iv fl, iv xx, iv cc, iv (1 : Int32), iv (((fl.toUInt32 >>> ((1 : Int32) &&& 31).toUInt32).toInt32) &&& (3 : Int32)), iv rr10, rv b11, un, un] []))
    refine Ends.go (fun _ => XS.aload X11.here hx rfl (hb hby at_32) rfl rfl) ?_
    show Ends p.tables e below G (T11.setTop (mkF m 34 #[iv fl, iv xx, iv cc, iv (1 : Int32), iv (((fl.toUInt32 >>> ((1 : Int32) &&& 31).toUInt32).toInt32) &&& (3 : Int32)), iv rr10, rv b11, un, un] [(.ref b11)]))
    refine Ends.go (fun _ => XS.iconst X11.here hx rfl (hb hby at_34)) ?_
    show Ends p.tables e below G (T11.setTop (mkF m 35 #[iv fl, iv xx, iv cc, iv (1 : Int32), iv (((fl.toUInt32 >>> ((1 : Int32) &&& 31).toUInt32).toInt32) &&& (3 : Int32)), iv rr10, rv b11, un, un] [(.int (0 : Int32)), (.ref b11)]))
    refine Ends.go (fun _ => XS.iloadN X11.here hx rfl (hb hby at_35) rfl) ?_
    show Ends p.tables e below G (T11.setTop (mkF m 36 #[iv fl, iv xx, iv cc, iv (1 : Int32), iv (((fl.toUInt32 >>> ((1 : Int32) &&& 31).toUInt32).toInt32) &&& (3 : Int32)), iv rr10, rv b11, un, un] [(.int cc), (.int (0 : Int32)), (.ref b11)]))
    refine Ends.go (fun _ => XS.sipush X11.here hx rfl (hb hby at_36)) ?_
    show Ends p.tables e below G (T11.setTop (mkF m 39 #[iv fl, iv xx, iv cc, iv (1 : Int32), iv (((fl.toUInt32 >>> ((1 : Int32) &&& 31).toUInt32).toInt32) &&& (3 : Int32)), iv rr10, rv b11, un, un] [(.int (255 : Int32)), (.int cc), (.int (0 : Int32)), (.ref b11)]))
    refine Ends.go (fun _ => XS.iand X11.here hx rfl (hb hby at_39) rfl) ?_
    show Ends p.tables e below G (T11.setTop (mkF m 40 #[iv fl, iv xx, iv cc, iv (1 : Int32), iv (((fl.toUInt32 >>> ((1 : Int32) &&& 31).toUInt32).toInt32) &&& (3 : Int32)), iv rr10, rv b11, un, un] [(.int (cc &&& (255 : Int32))), (.int (0 : Int32)), (.ref b11)]))
    refine Ends.go (fun _ => XS.i2c X11.here hx rfl (hb hby at_40) rfl) ?_
    show Ends p.tables e below G (T11.setTop (mkF m 41 #[iv fl, iv xx, iv cc, iv (1 : Int32), iv (((fl.toUInt32 >>> ((1 : Int32) &&& 31).toUInt32).toInt32) &&& (3 : Int32)), iv rr10, rv b11, un, un] [(.int ((cc &&& (255 : Int32)).toUInt32.toUInt16.toUInt32.toInt32)), (.int (0 : Int32)), (.ref b11)]))
    obtain ⟨T12, h12, X12, e12, W12, V12, st12⟩ := AF.stC V11 X11 hx hZ e11 (j := (0 : Int32)) (i := 0) (by decide) (by decide) (g := (mkF m 41 #[iv fl, iv xx, iv cc, iv (1 : Int32), iv (((fl.toUInt32 >>> ((1 : Int32) &&& 31).toUInt32).toInt32) &&& (3 : Int32)), iv rr10, rv b11, un, un] [(.int ((cc &&& (255 : Int32)).toUInt32.toUInt16.toUInt32.toInt32)), (.int (0 : Int32)), (.ref b11)])) rfl rfl (hb hby at_41)
    have sfo12 : Safe Z EL s.vm _ b11 := (own_safeA hZ.alike V11 (by decide))
    have sz12 := Nat.le_trans sz11 (Nat.le_of_eq W12.size.symm)
    have N12 := Fr.snoc X12 N10 g_b11
    have O12 := Old.wr O11 W12 g_b11
    have hkS := Nat.le_trans hkS (Nat.le_of_eq W12.size.symm)
    have C12 := CHr.trans C11 (CHr.wr W12 sfo12 C11.1)
    refine Ends.go (fun _ => st12 _) ?_
    show Ends p.tables e below G (T12.setTop (mkF m 42 #[iv fl, iv xx, iv cc, iv (1 : Int32), iv (((fl.toUInt32 >>> ((1 : Int32) &&& 31).toUInt32).toInt32) &&& (3 : Int32)), iv rr10, rv b11, un, un] []))
    obtain ⟨T13, h13, X13, e13, E13, A13, D13, U13, st13⟩ := newO X12 hx hZ hown (hw _ (List.mem_of_getElem? (i := 5) rfl)) (hw _ (List.mem_of_getElem? (i := 6) rfl)) (hw _ (List.mem_of_getElem? (i := 7) rfl)) e12 (g := (mkF m 42 #[iv fl, iv xx, iv cc, iv (1 : Int32), iv (((fl.toUInt32 >>> ((1 : Int32) &&& 31).toUInt32).toInt32) &&& (3 : Int32)), iv rr10, rv b11, un, un] [])) rfl (hb hby at_42) (by decide) (by decide)
    obtain ⟨b13, g13⟩ : ∃ z, z = h12.size := ⟨_, rfl⟩
    rw [← g13] at A13 D13 U13 st13
    have g_b13 : n0 ≤ b13 := Nat.le_trans sz12 (Nat.le_of_eq g13.symm)
    have ne_b11_b13 : b11 ≠ b13 := Nat.ne_of_lt (Nat.lt_of_lt_of_le (AF.lt V12) (Nat.le_of_eq g13.symm))
    have sfb13 : Safe Z EL s.vm h12 b13 := Safe.new (Nat.le_of_eq g13.symm)
    have f13_V_b11 := AF.ext V12 E13
    have sz13 := Nat.le_trans sz12 E13.1
    have O13 := Old.ext O12 E13
    have hkS := Nat.le_trans hkS E13.1
    have sf13_b13 := Safe.ext E13 C12.1 sfb13
    have C13 := CHr.trans C12 (CHr.ext E13 C12.1)
    have F13_coder : Fld Z h13 b13 "java/lang/String" "coder" "B" (.int (0 : Int32)) := D13 (Or.inr (hw _ (List.mem_of_getElem? (i := 31) rfl))) (ty := .byte) (by decide)
    have F13_value : Fld Z h13 b13 "java/lang/String" "value" "[B" .null := D13 (Or.inr (hw _ (List.mem_of_getElem? (i := 33) rfl))) (ty := (.array .byte)) (by decide)
    refine Ends.go (fun _ => st13 _) ?_
    show Ends p.tables e below G (T13.setTop (mkF m 45 #[iv fl, iv xx, iv cc, iv (1 : Int32), iv (((fl.toUInt32 >>> ((1 : Int32) &&& 31).toUInt32).toInt32) &&& (3 : Int32)), iv rr10, rv b11, un, un] [(.ref b13)]))
    refine Ends.go (fun _ => XS.dup X13.here hx rfl (hb hby at_45) rfl rfl) ?_
    show Ends p.tables e below G (T13.setTop (mkF m 46 #[iv fl, iv xx, iv cc, iv (1 : Int32), iv (((fl.toUInt32 >>> ((1 : Int32) &&& 31).toUInt32).toInt32) &&& (3 : Int32)), iv rr10, rv b11, un, un] [(.ref b13), (.ref b13)]))
    refine Ends.go (fun _ => XS.aload X13.here hx rfl (hb hby at_46) rfl rfl) ?_
    show Ends p.tables e below G (T13.setTop (mkF m 48 #[iv fl, iv xx, iv cc, iv (1 : Int32), iv (((fl.toUInt32 >>> ((1 : Int32) &&& 31).toUInt32).toInt32) &&& (3 : Int32)), iv rr10, rv b11, un, un] [(.ref b11), (.ref b13), (.ref b13)]))
    obtain ⟨cA, AA, szA, elA⟩ := id f13_V_b11
    obtain ⟨ty_, hp_⟩ := own_ch1 szA (elA 0 (by decide)) (fits_nar_char _) (own_c255 cc)
    obtain ⟨v14, vm14, ⟨T14, L14, k14, n14⟩, -, X14, po14, st14⟩ := X13.specialBack hx (y := (⟨"java/lang/String", "<init>", "([C)V"⟩ : MethodName)) rfl hown (mvT hZ (hw _ (List.mem_of_getElem? (i := 8) rfl))) (mvT hZ (hw _ (List.mem_of_getElem? (i := 9) rfl))) (mvT hZ (hw _ (List.mem_of_getElem? (i := 10) rfl))) (by decide) (StrChars.Road.back (W := 1) hZ (fun d hd => hw d (own_words d hd)) (kI := 4) (hw _ (List.mem_of_getElem? (i := 6) rfl)) A13 F13_value F13_coder AA ty_ (Sta.ext O13.2 SC) hzc (by rw [szA]; decide) (by rw [szA]; decide) hp_ (by decide) (by decide)) (g := (mkF m 48 #[iv fl, iv xx, iv cc, iv (1 : Int32), iv (((fl.toUInt32 >>> ((1 : Int32) &&& 31).toUInt32).toInt32) &&& (3 : Int32)), iv rr10, rv b11, un, un] [(.ref b11), (.ref b13), (.ref b13)])) rfl (by rw [hml]; rfl) (Steps.refl _) (a := b13) (argsL := [(.ref b11)]) (rest := [(.ref b13)]) (lenOf pd_27 rfl) rfl (by show 2 * 0 + _ ≤ _; exact Nat.le_of_eq rfl) (hb hby at_48) (fun _ _ => ⟨rfl, e13, (by decide : (((0 + 0) + 1) + 1) + 1 ≤ _), (by rw [szA]; decide : (((0 + 0) + 1) + 4) + cA.slots.size ≤ _)⟩)
    dsimp only [Pt.U, Pt.locs, Pt.cells, Pt.slots] at X14 st14 po14
    obtain ⟨Lc14, hQ14, l14, y14, z14⟩ := po14
    rw [szA] at z14
    subst l14 y14 z14
    obtain ⟨rfl, hb14, Kq14, hsz14, Eq14, Vq14, Cq14, ⟨Vc14, AV14, -, -, szV14, elV14⟩, -⟩ := hQ14
    have N14 := Fr.app N12 (fun y hy => by rw [hb14 y hy]; exact g_b13 : Fr n0 Lc14)
    have Bt14 := own_ba1 AV14 (szV14.trans szA) (elV14 0 (by rw [szA]; decide)) (StrChars.fits_lo8 _)
    obtain ⟨td14, gtd14⟩ : ∃ z, z = h13.size := ⟨_, rfl⟩
    rw [← gtd14] at Vq14 AV14 Bt14
    have hs14 : ∀ y ∈ ([b13] : List Addr), Safe Z EL s.vm h13 y := (sfS sf13_b13 sf0)
    have f14_V_b11 := AF.keep f13_V_b11 Kq14 (ninS ne_b11_b13 nin0)
    have f14_E_b13 := Exa.keep A13 Kq14
    have sz14 := Nat.le_trans sz13 (Kq14).1
    have O14 := Old.keep O13 Kq14 (allS g_b13 all0)
    have hkS := Nat.le_trans hkS (Kq14).1
    have sf14_b13 := Safe.keep Kq14 hs14 C13.1 sf13_b13
    have C14 := CHr.trans C13 (CHr.keep Kq14 hs14 C13.1)
    refine Ends.go (fun _ => st14.trans) ?_
    show Ends p.tables e below G (T14.setTop (mkF m 51 #[iv fl, iv xx, iv cc, iv (1 : Int32), iv (((fl.toUInt32 >>> ((1 : Int32) &&& 31).toUInt32).toInt32) &&& (3 : Int32)), iv rr10, rv b11, un, un] [(.ref b13)]))
    refine Ends.go (fun _ => XS.astore (g := (mkF m 51 #[iv fl, iv xx, iv cc, iv (1 : Int32), iv (((fl.toUInt32 >>> ((1 : Int32) &&& 31).toUInt32).toInt32) &&& (3 : Int32)), iv rr10, rv b11, un, un] [(.ref b13)])) X14.here hx rfl (hb hby at_51) rfl rfl (l' := #[iv fl, iv xx, iv cc, iv (1 : Int32), iv (((fl.toUInt32 >>> ((1 : Int32) &&& 31).toUInt32).toInt32) &&& (3 : Int32)), iv rr10, rv b11, rv b13, un]) rfl) ?_
    show Ends p.tables e below G (T14.setTop (mkF m 53 #[iv fl, iv xx, iv cc, iv (1 : Int32), iv (((fl.toUInt32 >>> ((1 : Int32) &&& 31).toUInt32).toInt32) &&& (3 : Int32)), iv rr10, rv b11, rv b13, un] []))
    obtain ⟨T15, h15, X15, e15, E15, A15, D15, U15, st15⟩ := newO X14 hx hZ hown (hw _ (List.mem_of_getElem? (i := 34) rfl)) (hw _ (List.mem_of_getElem? (i := 35) rfl)) (hw _ (List.mem_of_getElem? (i := 36) rfl)) rfl (g := (mkF m 53 #[iv fl, iv xx, iv cc, iv (1 : Int32), iv (((fl.toUInt32 >>> ((1 : Int32) &&& 31).toUInt32).toInt32) &&& (3 : Int32)), iv rr10, rv b11, rv b13, un] [])) rfl (hb hby at_53) (by decide) (by decide)
    obtain ⟨b15, g15⟩ : ∃ z, z = T14.heap.size := ⟨_, rfl⟩
    rw [← g15] at A15 D15 U15 st15
    have g_b15 : n0 ≤ b15 := Nat.le_trans sz14 (Nat.le_of_eq g15.symm)
    have ne_b13_b15 : b13 ≠ b15 := Nat.ne_of_lt (Nat.lt_of_lt_of_le Eq14.lt (Nat.le_of_eq g15.symm))
    have ne_td14_b15 : td14 ≠ b15 := Nat.ne_of_lt (Nat.lt_of_lt_of_le (BA.lt Bt14) (Nat.le_of_eq g15.symm))
    have sfb15 : Safe Z EL s.vm T14.heap b15 := Safe.new (Nat.le_of_eq g15.symm)
    have f15_E_b13 := Eq14.ext E15
    have f15_F_b13_value := Vq14.ext E15
    have f15_F_b13_coder := Cq14.ext E15
    have f15_P_td14 := BA.ext Bt14 E15
    have sz15 := Nat.le_trans sz14 E15.1
    have O15 := Old.ext O14 E15
    have hkS := Nat.le_trans hkS E15.1
    have sf15_b13 := Safe.ext E15 C14.1 sf14_b13
    have sf15_b15 := Safe.ext E15 C14.1 sfb15
    have C15 := CHr.trans C14 (CHr.ext E15 C14.1)
    have F15_cause : Fld Z h15 b15 "java/lang/Throwable" "cause" "Ljava/lang/Throwable;" .null := D15 (Or.inl (hw _ (List.mem_of_getElem? (i := 211) rfl))) (ty := (.object "java/lang/Throwable")) (by decide)
    have F15_stackTrace : Fld Z h15 b15 "java/lang/Throwable" "stackTrace" "[Ljava/lang/StackTraceElement;" .null := D15 (Or.inl (hw _ (List.mem_of_getElem? (i := 214) rfl))) (ty := (.array (.object "java/lang/StackTraceElement"))) (by decide)
    have F15_suppressedExceptions : Fld Z h15 b15 "java/lang/Throwable" "suppressedExceptions" "Ljava/util/List;" .null := D15 (Or.inl (hw _ (List.mem_of_getElem? (i := 217) rfl))) (ty := (.object "java/util/List")) (by decide)
    have F15_detailMessage : Fld Z h15 b15 "java/lang/Throwable" "detailMessage" "Ljava/lang/String;" .null := D15 (Or.inl (hw _ (List.mem_of_getElem? (i := 241) rfl))) (ty := (.object "java/lang/String")) (by decide)
    have F15_backtrace : Fld Z h15 b15 "java/lang/Throwable" "backtrace" "Ljava/lang/Object;" .null := D15 (Or.inl (hw _ (List.mem_of_getElem? (i := 242) rfl))) (ty := (.object "java/lang/Object")) (by decide)
    have F15_depth : Fld Z h15 b15 "java/lang/Throwable" "depth" "I" (.int (0 : Int32)) := D15 (Or.inl (hw _ (List.mem_of_getElem? (i := 243) rfl))) (ty := .int) (by decide)
    have F15_channel : Fld Z h15 b15 "com/example/dispatchbook/dispatchbook/amqp/BrokerClosedException" "channel" "Z" (.int (0 : Int32)) := D15 (Or.inr (hw _ (List.mem_of_getElem? (i := 247) rfl))) (ty := .boolean) (by decide)
    have F15_replyCode : Fld Z h15 b15 "com/example/dispatchbook/dispatchbook/amqp/BrokerClosedException" "replyCode" "I" (.int (0 : Int32)) := D15 (Or.inr (hw _ (List.mem_of_getElem? (i := 249) rfl))) (ty := .int) (by decide)
    refine Ends.go (fun _ => st15 _) ?_
    show Ends p.tables e below G (T15.setTop (mkF m 56 #[iv fl, iv xx, iv cc, iv (1 : Int32), iv (((fl.toUInt32 >>> ((1 : Int32) &&& 31).toUInt32).toInt32) &&& (3 : Int32)), iv rr10, rv b11, rv b13, un] [(.ref b15)]))
    refine Ends.go (fun _ => XS.dup X15.here hx rfl (hb hby at_56) rfl rfl) ?_
    show Ends p.tables e below G (T15.setTop (mkF m 57 #[iv fl, iv xx, iv cc, iv (1 : Int32), iv (((fl.toUInt32 >>> ((1 : Int32) &&& 31).toUInt32).toInt32) &&& (3 : Int32)), iv rr10, rv b11, rv b13, un] [(.ref b15), (.ref b15)]))
    refine Ends.go (fun _ => XS.iloadN X15.here hx rfl (hb hby at_57) rfl) ?_
    show Ends p.tables e below G (T15.setTop (mkF m 58 #[iv fl, iv xx, iv cc, iv (1 : Int32), iv (((fl.toUInt32 >>> ((1 : Int32) &&& 31).toUInt32).toInt32) &&& (3 : Int32)), iv rr10, rv b11, rv b13, un] [(.int (1 : Int32)), (.ref b15), (.ref b15)]))
    refine Ends.go (fun _ => XS.iload X15.here hx rfl (hb hby at_58) rfl) ?_
    show Ends p.tables e below G (T15.setTop (mkF m 60 #[iv fl, iv xx, iv cc, iv (1 : Int32), iv (((fl.toUInt32 >>> ((1 : Int32) &&& 31).toUInt32).toInt32) &&& (3 : Int32)), iv rr10, rv b11, rv b13, un] [(.int rr10), (.int (1 : Int32)), (.ref b15), (.ref b15)]))
    refine Ends.go (fun _ => XS.aload X15.here hx rfl (hb hby at_60) rfl rfl) ?_
    show Ends p.tables e below G (T15.setTop (mkF m 62 #[iv fl, iv xx, iv cc, iv (1 : Int32), iv (((fl.toUInt32 >>> ((1 : Int32) &&& 31).toUInt32).toInt32) &&& (3 : Int32)), iv rr10, rv b11, rv b13, un] [(.ref b13), (.int rr10), (.int (1 : Int32)), (.ref b15), (.ref b15)]))
    obtain ⟨_, _, ⟨T16, L16, k16, n16⟩, -, X16, hS, gS16, ⟨Lc16, hQ16, l16, y16, z16, -⟩, st16⟩ := X15.specialBackS hx (y := (⟨"com/example/dispatchbook/dispatchbook/amqp/BrokerClosedException", "<init>", "(ZILjava/lang/String;)V"⟩ : MethodName)) rfl hown (mvT hZ (hw _ (List.mem_of_getElem? (i := 37) rfl))) (mvT hZ (hw _ (List.mem_of_getElem? (i := 38) rfl))) (mvT hZ (hw _ (List.mem_of_getElem? (i := 39) rfl))) (by decide) (backOfSKH (W := 1) (s := s) (vm0 := s.vm) (rm8 l hl_ Z a0 hw [] b15 (1 : Int32) rr10 b13 td14 dst a1 a2 DC1 DC2 uU uS zc h15 n0 sz15 O15 SC hzc TB1 TB2 SU SS ⟨f15_E_b13, f15_F_b13_value, f15_F_b13_coder, f15_P_td14⟩ (by decide) A15 U15 F15_backtrace F15_detailMessage F15_channel F15_replyCode F15_cause F15_stackTrace F15_suppressedExceptions g_b15) hZ (hw _ (List.mem_of_getElem? (i := 39) rfl)) (hw _ (List.mem_of_getElem? (i := 36) rfl)) (by decide) (by decide) hEL C15.1 hTK hBelow) (g := (mkF m 62 #[iv fl, iv xx, iv cc, iv (1 : Int32), iv (((fl.toUInt32 >>> ((1 : Int32) &&& 31).toUInt32).toInt32) &&& (3 : Int32)), iv rr10, rv b11, rv b13, un] [(.ref b13), (.int rr10), (.int (1 : Int32)), (.ref b15), (.ref b15)])) rfl (by rw [hml]; rfl) (Steps.refl _) (a := b15) (argsL := [(.int (1 : Int32)), (.int rr10), (.ref b13)]) (rest := [(.ref b15)]) (lenOf pd_28 rfl) rfl (by show 2 * 0 + _ ≤ _; exact Nat.le_of_eq rfl) (hb hby at_62) (fun _ _ => ⟨rfl, e15, (by decide : (((((0 + 0) + 1) + 1) + 1) + 1) + 24 ≤ _), (by decide : (((((0 + 0) + 1) + 4) + 1) + 8) + 5800 ≤ _)⟩)
    dsimp only [Pt.U, Pt.locs, Pt.cells, Pt.slots] at X16 hS gS16 l16 y16 z16 st16 hQ16
    subst l16 y16 z16
    obtain ⟨rfl, N16q, Kq16, Eq16, Fq16, Gq16⟩ := hQ16
    have N16 := Fr.app N14 N16q
    have hZ : Z.Warmed39 (s.setVm T16.vm).vm := State.Warmed39.trans hZ hS.1
    have hown : (s.setVm T16.vm).vm.findClass "com/example/dispatchbook/dispatchbook/amqp/BrokerClosedExceptionRefusedMessagePinLaw" = some m.cls := (hS.1.alike.findClass _ _).trans hown
    have sz16 := Nat.le_trans sz15 Kq16.1
    refine Ends.go (fun _ => st16.trans) ?_
    show Ends p.tables e below G (T16.setTop (mkF m 65 #[iv fl, iv xx, iv cc, iv (1 : Int32), iv (((fl.toUInt32 >>> ((1 : Int32) &&& 31).toUInt32).toInt32) &&& (3 : Int32)), iv rr10, rv b11, rv b13, un] [(.ref b15)]))
    refine Ends.go (fun _ => XS.astore (g := (mkF m 65 #[iv fl, iv xx, iv cc, iv (1 : Int32), iv (((fl.toUInt32 >>> ((1 : Int32) &&& 31).toUInt32).toInt32) &&& (3 : Int32)), iv rr10, rv b11, rv b13, un] [(.ref b15)])) X16.here hx rfl (hb hby at_65) rfl rfl (l' := #[iv fl, iv xx, iv cc, iv (1 : Int32), iv (((fl.toUInt32 >>> ((1 : Int32) &&& 31).toUInt32).toInt32) &&& (3 : Int32)), iv rr10, rv b11, rv b13, rv b15]) rfl) ?_
    show Ends p.tables e below G (T16.setTop (mkF m 67 #[iv fl, iv xx, iv cc, iv (1 : Int32), iv (((fl.toUInt32 >>> ((1 : Int32) &&& 31).toUInt32).toInt32) &&& (3 : Int32)), iv rr10, rv b11, rv b13, rv b15] []))
    refine Ends.go (fun _ => XS.aload X16.here hx rfl (hb hby at_67) rfl rfl) ?_
    show Ends p.tables e below G (T16.setTop (mkF m 69 #[iv fl, iv xx, iv cc, iv (1 : Int32), iv (((fl.toUInt32 >>> ((1 : Int32) &&& 31).toUInt32).toInt32) &&& (3 : Int32)), iv rr10, rv b11, rv b13, rv b15] [(.ref b15)]))
    obtain ⟨cq17, kq17, q17a, q17b, q17c⟩ := isOf hZ rfl Eq16
    obtain ⟨_, _, ⟨T17, L17, k17, n17⟩, -, X17, ⟨Lc17, hQ17, l17, y17, z17⟩, st17⟩ := X16.virtualBack hx (y := (⟨"com/example/dispatchbook/dispatchbook/amqp/BrokerClosedException", "refusedMessage", "()Z"⟩ : MethodName)) (z := (⟨"com/example/dispatchbook/dispatchbook/amqp/BrokerClosedException", "refusedMessage", "()Z"⟩ : MethodName)) hown (mvT hZ (hw _ (List.mem_of_getElem? (i := 250) rfl))) (mvT hZ (hw _ (List.mem_of_getElem? (i := 251) rfl))) (notFace_of_selects (args := #[]) (mvT hZ (hw _ (List.mem_of_getElem? (i := 253) rfl)))) (mvT hZ (hw _ (List.mem_of_getElem? (i := 253) rfl))) (mvT hZ (hw _ (List.mem_of_getElem? (i := 252) rfl))) (by decide) (backOf (W := 0) (rm43 l Z a0 hw [] b15 (1 : Int32) rr10 T16.heap n0 sz16 Fq16 Gq16) hZ (hw _ (List.mem_of_getElem? (i := 254) rfl)) (hw _ (List.mem_of_getElem? (i := 36) rfl)) (by decide) (by decide)) q17a q17c (g := (mkF m 69 #[iv fl, iv xx, iv cc, iv (1 : Int32), iv (((fl.toUInt32 >>> ((1 : Int32) &&& 31).toUInt32).toInt32) &&& (3 : Int32)), iv rr10, rv b11, rv b13, rv b15] [(.ref b15)])) rfl (by rw [hml]; rfl) (Steps.refl _) (argsL := []) (rest := []) (lenOf pd_13 rfl) rfl (by show 2 * 0 + _ ≤ _; exact Nat.le_of_eq rfl) (hb hby at_69) (fun _ _ => ⟨rfl, rfl, (by decide : ((((((0 + 0) + 1) + 1) + 1) + 1) + 24) + 0 ≤ _), (by decide : ((((((0 + 0) + 1) + 4) + 1) + 8) + 5800) + 0 ≤ _)⟩)
    dsimp only [Pt.U, Pt.locs, Pt.cells, Pt.slots] at X17 l17 y17 z17 st17 hQ17
    subst l17 y17 z17
    obtain ⟨rfl, N17q, e17⟩ := hQ17
    have N17 := Fr.app N16 N17q
    refine Ends.go (fun _ => st17.trans) ?_
    show Ends p.tables e below G (T17.setTop (mkF m 72 #[iv fl, iv xx, iv cc, iv (1 : Int32), iv (((fl.toUInt32 >>> ((1 : Int32) &&& 31).toUInt32).toInt32) &&& (3 : Int32)), iv rr10, rv b11, rv b13, rv b15] [(.int (own_E (1 : Int32) rr10))]))
    refine Ends.go (fun _ => XS.iloadN X17.here hx rfl (hb hby at_72) rfl) ?_
    show Ends p.tables e below G (T17.setTop (mkF m 73 #[iv fl, iv xx, iv cc, iv (1 : Int32), iv (((fl.toUInt32 >>> ((1 : Int32) &&& 31).toUInt32).toInt32) &&& (3 : Int32)), iv rr10, rv b11, rv b13, rv b15] [(.int (1 : Int32)), (.int (own_E (1 : Int32) rr10))]))
    refine Ends.go (fun _ => XS.iload X17.here hx rfl (hb hby at_73) rfl) ?_
    show Ends p.tables e below G (T17.setTop (mkF m 75 #[iv fl, iv xx, iv cc, iv (1 : Int32), iv (((fl.toUInt32 >>> ((1 : Int32) &&& 31).toUInt32).toInt32) &&& (3 : Int32)), iv rr10, rv b11, rv b13, rv b15] [(.int rr10), (.int (1 : Int32)), (.int (own_E (1 : Int32) rr10))]))
    obtain ⟨_, _, ⟨T18, L18, k18, n18⟩, -, X18, ⟨Lc18, hQ18, l18, y18, z18⟩, st18⟩ := Jvm.LawKit.callS X17 hx (y := (⟨"com/example/dispatchbook/dispatchbook/amqp/BrokerClosedExceptionRefusedMessagePinLaw", "expected", "(ZI)Z"⟩ : MethodName)) hown (mvT hZ (hw _ (List.mem_of_getElem? (i := 255) rfl))) (mvT hZ (hw _ (List.mem_of_getElem? (i := 256) rfl))) (mvT hZ (hw _ (List.mem_of_getElem? (i := 2) rfl))) (mvT hZ (hw _ (List.mem_of_getElem? (i := 257) rfl))) (by decide) (backOf (W := 1) (rm44 l Z a0 hw [] (1 : Int32) rr10 T16.heap n0 sz16) hZ (hw _ (List.mem_of_getElem? (i := 257) rfl)) (hw _ (List.mem_of_getElem? (i := 2) rfl)) (by decide) (by decide)) (g := (mkF m 75 #[iv fl, iv xx, iv cc, iv (1 : Int32), iv (((fl.toUInt32 >>> ((1 : Int32) &&& 31).toUInt32).toInt32) &&& (3 : Int32)), iv rr10, rv b11, rv b13, rv b15] [(.int rr10), (.int (1 : Int32)), (.int (own_E (1 : Int32) rr10))])) rfl (by rw [hml]; rfl) (argsL := [(.int (1 : Int32)), (.int rr10)]) (rest := [(.int (own_E (1 : Int32) rr10))]) (lenOf pd_29 rfl) rfl (by show 2 * 0 + _ ≤ _; exact Nat.le_of_eq rfl) (hb hby at_75) (fun _ _ => ⟨rfl, e17, (by decide : (((((((0 + 0) + 1) + 1) + 1) + 1) + 24) + 0) + 0 ≤ _), (by decide : (((((((0 + 0) + 1) + 4) + 1) + 8) + 5800) + 0) + 0 ≤ _)⟩)
    dsimp only [Pt.U, Pt.locs, Pt.cells, Pt.slots] at X18 l18 y18 z18 st18 hQ18
    subst l18 y18 z18
    obtain ⟨rfl, N18q, e18⟩ := hQ18
    have N18 := Fr.app N17 N18q
    refine Ends.go (fun _ => st18 _) ?_
    show Ends p.tables e below G (T18.setTop (mkF m 78 #[iv fl, iv xx, iv cc, iv (1 : Int32), iv (((fl.toUInt32 >>> ((1 : Int32) &&& 31).toUInt32).toInt32) &&& (3 : Int32)), iv rr10, rv b11, rv b13, rv b15] [(.int (own_E (1 : Int32) rr10)), (.int (own_E (1 : Int32) rr10))]))
    refine Ends.go (fun _ => XS.icmpNo X18.here hx rfl (hb hby at_78) rfl (teq (rfl : (own_E (1 : Int32) rr10) = (own_E (1 : Int32) rr10))).2) ?_
    show Ends p.tables e below G (T18.setTop (mkF m 81 #[iv fl, iv xx, iv cc, iv (1 : Int32), iv (((fl.toUInt32 >>> ((1 : Int32) &&& 31).toUInt32).toInt32) &&& (3 : Int32)), iv rr10, rv b11, rv b13, rv b15] []))
    refine Ends.go (fun _ => XS.iconst X18.here hx rfl (hb hby at_81)) ?_
    show Ends p.tables e below G (T18.setTop (mkF m 82 #[iv fl, iv xx, iv cc, iv (1 : Int32), iv (((fl.toUInt32 >>> ((1 : Int32) &&& 31).toUInt32).toInt32) &&& (3 : Int32)), iv rr10, rv b11, rv b13, rv b15] [(.int (1 : Int32))]))
    refine Ends.go (fun _ => XS.goto X18.here hx rfl (pc0 := 82) (pc' := 86) rfl (hb hby at_82) (by decide) (by decide)) ?_
    show Ends p.tables e below G (T18.setTop (mkF m 86 #[iv fl, iv xx, iv cc, iv (1 : Int32), iv (((fl.toUInt32 >>> ((1 : Int32) &&& 31).toUInt32).toInt32) &&& (3 : Int32)), iv rr10, rv b11, rv b13, rv b15] [(.int (1 : Int32))]))
    refine own_finWS X18 hS (by rw [e18]; exact Nat.le_refl _) hx Bd.returns (by simp) Bd.notSynchronized (hb hby at_86) (Q := (Q0 Z fl xx cc dst a1 a2 DC1 DC2 uU uS zc h0 n0)) hG (by decide) (by decide) ?_
    exact ⟨rfl, N18⟩
theorem own_tr {l : Launch} (hfl : l.flags = flags0) : l.stackTraces = true := by
  show (!l.flags.contains noTraceFlag) = true
  rw [hfl]
  decide +kernel
set_option maxRecDepth 65536 in
set_option maxHeartbeats 40000000 in
theorem comes_1 {Post : Tables → Env → Array Value → State → Outcome → State → Prop} (hpost : ∀ tb e args s v u, (limb_1_1.after args s (.returned v) u = true ∧ limb_1_2.after args s (.returned v) u = true ∧ True) → FramedW s (.returned v) u (Jvm.fieldLocs frame_1_writes args s ++ Jvm.arrayLocs frame_1_arrays args s ++ Jvm.staticLocs frame_1_statics s) 40 11136 → Post tb e args s (.returned v) u) :
    ArmFor flags0 classFile x code maxLocals ret World_1 tables_1 room_1 Calls_1 rest_1 Pre_1 Post := by
  intro l hfl _ _ p e ha hc hk s m args below hf hA hF happ hP
  obtain ⟨hcalls, hrest, hpre⟩ := hP
  obtain ⟨-, -, -, hnamed, -, -, -, hat⟩ := (Spec.applies_iff hf).mp happ
  obtain ⟨hg, hn⟩ := and_e (Cond.before_iff.mp (show (Jvm.Cond.and given_1 narrow_1).before args s = true from hpre))
  obtain ⟨g1, g2⟩ := and_e hg
  obtain ⟨g3, g4⟩ := and_e g2
  obtain ⟨g5, g6⟩ := and_e g4
  obtain ⟨w0, w1, w2, rfl⟩ : ∃ w0 w1 w2 : Value, args = #[w0, w1, w2] := by
    have hs : args.size = 3 := by simpa [Cond.value, given_1] using g1
    obtain ⟨L⟩ := args
    match L, hs with
    | [w0, w1, w2], _ => exact ⟨w0, w1, w2, rfl⟩
  have hw := fun d (hd : d ∈ tables_1) => atoms_spec (ws := Jvm.Cond.code x code maxLocals ret :: tables_1) hat d (List.mem_cons_of_mem _ hd)
  obtain ⟨hsets, hown0⟩ := atoms_of _ (rest_1_c_eq ▸ (show rest_1_c.before _ s = true from hrest))
  have hfit : Fit s := fun {y c} hc i hi => by
    obtain ⟨ha, rfl⟩ := Array.getElem?_eq_some_iff.mp hc
    have q := List.all_eq_true.mp ((Array.all_eq_true_iff_forall_mem.mp hF) _ (Array.getElem_mem ha)) i (List.mem_range.mpr hi)
    simpa [Array.getElem?_eq_getElem hi] using q
  obtain ⟨i0, ei0⟩ := is_v g3
  obtain rfl : w0 = (.int i0) := Option.some.inj ei0
  obtain ⟨i1, ei1⟩ := is_v g5
  obtain rfl : w1 = (.int i1) := Option.some.inj ei1
  obtain ⟨i2, ei2⟩ := is_v g6
  obtain rfl : w2 = (.int i2) := Option.some.inj ei2
  have n3 := not_v (Cond.before_iff.mp (hsets _ (List.mem_of_getElem? (i := 2) rfl)))
  obtain ⟨zc, e6⟩ := is_v (Cond.before_iff.mp (hsets _ (List.mem_of_getElem? (i := 1) rfl)))
  have SC : Sta s s.heap "java/lang/String" "COMPACT_STRINGS" "Z" (.int zc) := Sta.start e6 (Or.inl (hsets _ (List.mem_of_getElem? (i := 0) rfl)))
  have hzc : ¬ (zc = (0 : Int32)) := gotF (Cond.eq_ints e6 (Term.int_eval (0))) n3
  obtain ⟨dst, c1, k1, a1, D1, q1, q2, q3, TB1⟩ := own_tbl0 hfit (hsets _ (List.mem_of_getElem? (i := 10) rfl)) (hsets _ (List.mem_of_getElem? (i := 9) rfl)) (hsets _ (List.mem_of_getElem? (i := 12) rfl)) (hsets _ (List.mem_of_getElem? (i := 13) rfl)) (hw _ (List.mem_of_getElem? (i := 23) rfl))
  obtain ⟨dst2, c2, k2, a2, D2, r1, r2, r3, TB2⟩ := own_tbl0 hfit (hsets _ (List.mem_of_getElem? (i := 15) rfl)) (hsets _ (List.mem_of_getElem? (i := 9) rfl)) (hsets _ (List.mem_of_getElem? (i := 17) rfl)) (hsets _ (List.mem_of_getElem? (i := 18) rfl)) (hw _ (List.mem_of_getElem? (i := 23) rfl))
  obtain rfl : c1 = c2 := Option.some.inj (q1.symm.trans r1)
  obtain rfl : k1 = k2 := Option.some.inj (q2.symm.trans r2)
  obtain rfl : dst = dst2 := Option.some.inj (q3.symm.trans r3)
  obtain ⟨uU, eU⟩ := arr_v (Cond.before_iff.mp (hsets _ (List.mem_of_getElem? (i := 28) rfl)))
  have SU : Sta s s.heap "java/lang/Throwable" "UNASSIGNED_STACK" "[Ljava/lang/StackTraceElement;" (.ref uU) := Sta.start eU (Or.inl (hsets _ (List.mem_of_getElem? (i := 26) rfl)))
  obtain ⟨uS, eS⟩ := exa_v (Cond.before_iff.mp (hsets _ (List.mem_of_getElem? (i := 33) rfl)))
  have SS : Sta s s.heap "java/lang/Throwable" "SUPPRESSED_SENTINEL" "Ljava/util/List;" (.ref uS) := Sta.start eS (Or.inl (hsets _ (List.mem_of_getElem? (i := 31) rfl)))
  have hl_ : l.stackTraces = true := own_tr hfl
  have hC : CHv s EL s.vm s.heap := CHv.start (own_EW hw) (fun q hq => hcalls.2.2.1 q hq) (hsets _ (List.mem_of_getElem? (i := 2) rfl)) (hw _ (List.mem_of_getElem? (i := 23) rfl)) (hw _ (List.mem_of_getElem? (i := 6) rfl))
  obtain ⟨n, o, h1, h2, h3, _, L, rfl, ⟨rfl, N⟩, hq⟩ := rm0 l hl_ s _ hw tables_1 i0 i1 i2 dst a1 a2 D1 D2 uU uS zc s.heap s.heap.size (Nat.le_refl _) (Old.start s) SC hzc TB1 TB2 SU SS p e ha hc hk s m _ below hf ((Spec.applies_iff_loose hf).mp happ).1 ⟨rfl, State.Warmed39.refl s, rfl, hC⟩ ⟨MethodsKnown_of_tablesKnown hcalls.2.1, FramesKnown_of_framesKnown hcalls.1 hf⟩
  refine ⟨n, _, h1, h2, h3, hpost _ _ _ _ _ _ ⟨Cond.after_iff.mpr rfl, Cond.after_iff.mpr (eq_i res_at (Term.int_eval (1)) rfl), trivial⟩ ⟨hq.1, hq.2.1, hq.2.2.1, (hq.2.2.2.sift fun y hy => Or.inr (N y hy)).mono (by decide) (by decide)⟩⟩
theorem main_1_1 : Claimed_1_1 := comes_1 fun _ _ _ _ _ _ h hF => ⟨h.1, hF⟩
theorem main_1_2 : Claimed_1_2 := comes_1 fun _ _ _ _ _ _ h hF => ⟨h.2.1, hF⟩
end Jvm.Pilot.@@N@@
namespace Jvm.Pilot.@@N@@
open Jvm Jvm.ClassFile Sem Op Lib Jvm.Free Jvm.Stand Jvm.Pilot.@@N@@.Jvm.D
/-! MADE BY PROGRAM (witnessworld.py) out of the Statement's table words and the real class files: 42 classes; the members and pool entries that the words name. The judged class is class 1, her method 3. -/
namespace start1
open Jvm.ClassFile
def u (s : String) : CpInfo := .utf8 (stringToUtf16 s)
/-- a pool by its gaps: so many unusable entries, then the entry; so many at the end -/
def gap : Nat → List CpInfo → List CpInfo
  | 0, r => r
  | n + 1, r => .unusable :: gap n r
def poolList (es : List (Nat × CpInfo)) (last : Nat) : List CpInfo := es.foldr (fun e r => gap e.1 (e.2 :: r)) (gap last [])
def pool (es : List (Nat × CpInfo)) (last : Nat) : Array CpInfo := ⟨poolList es last⟩
def fileOf (pool : Array CpInfo) (this : Nat) (attrs : Array Attribute := #[]) (ms : Array MethodInfo := #[]) (fl : Nat := 33) (sup : Nat := 0) (ifs : Array Nat := #[]) (fds : Array FieldInfo := #[]) : ClassFile where
  minorVersion := 0
  majorVersion := 65
  constantPool := pool
  accessFlags := fl
  thisClass := this
  superClass := sup
  interfaces := ifs
  fields := fds
  methods := ms
  attributes := attrs
def plain (name : String) (sup : Option ClassId) : Class where
  name := name
  kind := .ordinary
  loader := none
  accessFlags := 33
  super := sup
  interfaces := #[]
  cf := none
  fields := #[]
  methods := #[]
  instanceTypes := #[]
  staticTypes := #[]
  resolved := #[]
  callSites := []
  init := .initialized
  statics := none
  mirror := none

def pool0 : Array CpInfo := pool [(5, u "<init>"), (0, u "()V"), (1, .class_ 10), (1, u "java/lang/Object"), (85, u "clone"), (0, u "()Ljava/lang/Object;")] 26

def k0c0 : Code := { maxStack := 0, maxLocals := 1, code := object_method_1_code, exceptionTable := #[], attributes := #[] }
def k0m0 : Method := { name := "<init>", desc := "()V", sig := { parameters := [], returnType := none }, accessFlags := 1, code := some k0c0 }
def k0m1 : Method := { name := "clone", desc := "()Ljava/lang/Object;", sig := { parameters := [], returnType := some (.object "java/lang/Object") }, accessFlags := 260, code := none }
/-- java/lang/Object -/
def k0 : Class := { plain "java/lang/Object" none with
  accessFlags := 33
  interfaces := #[]
  cf := some (fileOf pool0 8 #[] #[{ accessFlags := 1, nameIndex := 5, descriptorIndex := 6, attributes := #[] }, { accessFlags := 260, nameIndex := 96, descriptorIndex := 97, attributes := #[] }] 33 0 #[] #[])
  fields := #[]
  methods := #[k0m0, k0m1]
  instanceTypes := #[]
  staticTypes := #[]
  resolved := Array.replicate 124 none
  statics := none }

def pool1 : Array CpInfo := pool [(2, .class_ 4), (1, u "java/lang/Object"), (0, u "<init>"), (0, u "()V"), (0, .methodref 8 9), (0, .class_ 10), (0, .nameAndType 11 12), (0, u "com/example/dispatchbook/dispatchbook/amqp/BrokerClosedExceptionRefusedMessagePinLaw"), (0, u "pickCode"), (0, u "(II)I"), (0, .class_ 14), (0, u "java/lang/String"), (0, .methodref 13 16), (0, .nameAndType 5 17), (0, u "([C)V"), (0, .class_ 19), (0, u "com/example/dispatchbook/dispatchbook/amqp/BrokerClosedException"), (0, .methodref 18 21), (0, .nameAndType 5 22), (0, u "(ZILjava/lang/String;)V"), (0, .methodref 18 24), (0, .nameAndType 25 26), (0, u "refusedMessage"), (0, u "()Z"), (0, .methodref 8 28), (0, .nameAndType 29 30), (0, u "expected"), (0, u "(ZI)Z"), (3, u "law"), (0, u "(III)Z")] 4

def k1m0 : Method := { name := "<init>", desc := "()V", sig := { parameters := [], returnType := none }, accessFlags := 2, code := none }
def k1c1 : Code := { maxStack := 2, maxLocals := 2, code := method_2_code, exceptionTable := #[], attributes := #[] }
def k1m1 : Method := { name := "pickCode", desc := "(II)I", sig := { parameters := [.int, .int], returnType := some .int }, accessFlags := 10, code := some k1c1 }
def k1c2 : Code := { maxStack := 2, maxLocals := 2, code := method_3_code, exceptionTable := #[], attributes := #[] }
def k1m2 : Method := { name := "expected", desc := "(ZI)Z", sig := { parameters := [.boolean, .int], returnType := some .boolean }, accessFlags := 10, code := some k1c2 }
def k1c3 : Code := { maxStack := 5, maxLocals := 9, code := code, exceptionTable := #[], attributes := #[] }
def k1m3 : Method := { name := "law", desc := "(III)Z", sig := { parameters := [.int, .int, .int], returnType := some .boolean }, accessFlags := 9, code := some k1c3 }
/-- com/example/dispatchbook/dispatchbook/amqp/BrokerClosedExceptionRefusedMessagePinLaw -/
def k1 : Class := { plain "com/example/dispatchbook/dispatchbook/amqp/BrokerClosedExceptionRefusedMessagePinLaw" (some 0) with
  accessFlags := 49
  interfaces := #[]
  cf := some (fileOf pool1 8 #[] #[{ accessFlags := 2, nameIndex := 5, descriptorIndex := 6, attributes := #[] }, { accessFlags := 10, nameIndex := 11, descriptorIndex := 12, attributes := #[] }, { accessFlags := 10, nameIndex := 29, descriptorIndex := 30, attributes := #[] }, { accessFlags := 9, nameIndex := 34, descriptorIndex := 35, attributes := #[] }] 49 2 #[] #[])
  fields := #[]
  methods := #[k1m0, k1m1, k1m2, k1m3]
  instanceTypes := #[]
  staticTypes := #[]
  resolved := Array.replicate 40 none
  statics := none }

def pool2 : Array CpInfo := pool [(1, .class_ 2), (0, u "java/io/Serializable"), (0, .class_ 4), (0, u "java/lang/Object")] 2

/-- java/io/Serializable -/
def k2 : Class := { plain "java/io/Serializable" (some 0) with
  accessFlags := 1537
  interfaces := #[]
  cf := some (fileOf pool2 1 #[] #[] 1537 3 #[] #[])
  fields := #[]
  methods := #[]
  instanceTypes := #[]
  staticTypes := #[]
  resolved := Array.replicate 7 none
  statics := none }

def pool3 : Array CpInfo := pool [(1, .class_ 2), (0, u "java/lang/Comparable"), (0, .class_ 4), (0, u "java/lang/Object")] 7

/-- java/lang/Comparable -/
def k3 : Class := { plain "java/lang/Comparable" (some 0) with
  accessFlags := 1537
  interfaces := #[]
  cf := some (fileOf pool3 1 #[] #[] 1537 3 #[] #[])
  fields := #[]
  methods := #[]
  instanceTypes := #[]
  staticTypes := #[]
  resolved := Array.replicate 12 none
  statics := none }

def pool4 : Array CpInfo := pool [(2, .class_ 4), (1, u "java/lang/CharSequence"), (42, .class_ 48), (0, u "java/lang/CharSequence$1CodePointIterator"), (10, .class_ 60), (0, u "java/lang/CharSequence$1CharIterator"), (5, .class_ 67), (0, u "java/lang/Object")] 63

/-- java/lang/CharSequence -/
def k4 : Class := { plain "java/lang/CharSequence" (some 0) with
  accessFlags := 1537
  interfaces := #[]
  cf := some (fileOf pool4 2 #[.nestMembers #[47, 59]] #[] 1537 66 #[] #[])
  fields := #[]
  methods := #[]
  instanceTypes := #[]
  staticTypes := #[]
  resolved := Array.replicate 131 none
  statics := none }

def pool5 : Array CpInfo := pool [(1, .class_ 2), (0, u "java/lang/constant/Constable"), (0, .class_ 4), (0, u "java/lang/Object")] 6

/-- java/lang/constant/Constable -/
def k5 : Class := { plain "java/lang/constant/Constable" (some 0) with
  accessFlags := 1537
  interfaces := #[]
  cf := some (fileOf pool5 1 #[] #[] 1537 3 #[] #[])
  fields := #[]
  methods := #[]
  instanceTypes := #[]
  staticTypes := #[]
  resolved := Array.replicate 11 none
  statics := none }

def pool6 : Array CpInfo := pool [(1, .class_ 2), (0, u "java/lang/constant/ConstantDesc"), (0, .class_ 4), (0, u "java/lang/Object")] 32

/-- java/lang/constant/ConstantDesc -/
def k6 : Class := { plain "java/lang/constant/ConstantDesc" (some 0) with
  accessFlags := 1537
  interfaces := #[]
  cf := some (fileOf pool6 1 #[] #[] 1537 3 #[] #[])
  fields := #[]
  methods := #[]
  instanceTypes := #[]
  staticTypes := #[]
  resolved := Array.replicate 37 none
  statics := none }

def pool7 : Array CpInfo := pool [(1, .methodref 2 3), (0, .class_ 4), (0, .nameAndType 5 6), (0, u "java/lang/Object"), (0, u "<init>"), (0, u "()V"), (2, .fieldref 10 11), (0, .class_ 12), (0, .nameAndType 13 14), (0, u "java/lang/String"), (0, u "value"), (0, u "[B"), (0, .fieldref 10 16), (0, .nameAndType 17 18), (0, u "coder"), (0, u "B"), (2, u "hash"), (0, u "I"), (2, u "hashIsZero"), (0, u "Z"), (0, .methodref 10 28), (0, .nameAndType 5 29), (0, u "([CIILjava/lang/Void;)V"), (8, .fieldref 10 39), (0, .nameAndType 40 26), (0, u "COMPACT_STRINGS"), (1, .class_ 44), (1, u "java/lang/StringUTF16"), (0, u "compress"), (1, .methodref 42 48), (0, .nameAndType 49 50), (0, u "coderFromArrayLen"), (0, u "([BI)B"), (3, .methodref 55 56), (0, .class_ 57), (0, .nameAndType 58 59), (0, u "java/util/Arrays"), (0, u "copyOfRange"), (0, u "([BII)[B"), (82, u "()Z"), (34, .methodref 42 178), (0, .nameAndType 45 179), (0, u "([CII)[B"), (13, .class_ 195), (1, u "java/lang/System"), (16, .methodref 193 213), (0, .nameAndType 214 215), (0, u "arraycopy"), (0, u "(Ljava/lang/Object;ILjava/lang/Object;II)V"), (118, u "()I"), (0, .methodref 10 336), (0, .nameAndType 17 337), (0, u "()B"), (2, u "()[B"), (148, .methodref 10 490), (0, .nameAndType 5 491), (0, u "(Ljava/lang/AbstractStringBuilder;Ljava/lang/Void;)V"), (1, .nameAndType 494 142), (0, u "isLatin1"), (11, .nameAndType 507 334), (0, u "length"), (24, u "getBytes"), (16, .methodref 550 506), (0, .class_ 551), (0, u "java/lang/AbstractStringBuilder"), (0, .methodref 550 553), (0, .nameAndType 554 340), (0, u "getValue"), (20, .class_ 576), (0, u "java/lang/CharSequence"), (22, u "CASE_INSENSITIVE_ORDER"), (0, u "Ljava/util/Comparator;"), (220, u "([BIB)V"), (188, u "([C)V"), (36, .methodref 550 493), (53, u "serialPersistentFields"), (0, u "[Ljava/io/ObjectStreamField;"), (0, .class_ 1104), (0, u "java/lang/String$CaseInsensitiveComparator"), (1, .class_ 1107), (0, u "java/io/Serializable"), (0, .class_ 1109), (0, u "java/lang/Comparable"), (0, .class_ 1111), (0, u "java/lang/constant/Constable"), (0, .class_ 1113), (0, u "java/lang/constant/ConstantDesc"), (2, u "serialVersionUID"), (0, u "J"), (3, u "REPL"), (0, u "C"), (2, u "LATIN1"), (1, u "UTF16"), (105, u "(Ljava/lang/StringBuilder;)V")] 217

def k7m0 : Method := { name := "<init>", desc := "()V", sig := { parameters := [], returnType := none }, accessFlags := 1, code := none }
def k7c1 : Code := { maxStack := 5, maxLocals := 2, code := jdk_42_method_3_code, exceptionTable := #[], attributes := #[] }
def k7m1 : Method := { name := "<init>", desc := "([C)V", sig := { parameters := [(.array .char)], returnType := none }, accessFlags := 1, code := some k7c1 }
def k7c2 : Code := { maxStack := 3, maxLocals := 2, code := jdk_42_method_53_code, exceptionTable := #[], attributes := #[] }
def k7m2 : Method := { name := "<init>", desc := "(Ljava/lang/StringBuilder;)V", sig := { parameters := [(.object "java/lang/StringBuilder")], returnType := none }, accessFlags := 1, code := some k7c2 }
def k7c3 : Code := { maxStack := 2, maxLocals := 1, code := jdk_42_method_54_code, exceptionTable := #[], attributes := #[] }
def k7m3 : Method := { name := "length", desc := "()I", sig := { parameters := [], returnType := some .int }, accessFlags := 1, code := some k7c3 }
def k7c4 : Code := { maxStack := 5, maxLocals := 4, code := jdk_42_method_147_code, exceptionTable := #[], attributes := #[] }
def k7m4 : Method := { name := "getBytes", desc := "([BIB)V", sig := { parameters := [(.array .byte), .int, .byte], returnType := none }, accessFlags := 0, code := some k7c4 }
def k7c5 : Code := { maxStack := 4, maxLocals := 6, code := jdk_42_method_149_code, exceptionTable := #[], attributes := #[] }
def k7m5 : Method := { name := "<init>", desc := "([CIILjava/lang/Void;)V", sig := { parameters := [(.array .char), .int, .int, (.object "java/lang/Void")], returnType := none }, accessFlags := 2, code := some k7c5 }
def k7c6 : Code := { maxStack := 5, maxLocals := 5, code := jdk_42_method_150_code, exceptionTable := #[], attributes := #[] }
def k7m6 : Method := { name := "<init>", desc := "(Ljava/lang/AbstractStringBuilder;Ljava/lang/Void;)V", sig := { parameters := [(.object "java/lang/AbstractStringBuilder"), (.object "java/lang/Void")], returnType := none }, accessFlags := 0, code := some k7c6 }
def k7c7 : Code := { maxStack := 1, maxLocals := 1, code := jdk_42_method_152_code, exceptionTable := #[], attributes := #[] }
def k7m7 : Method := { name := "coder", desc := "()B", sig := { parameters := [], returnType := some .byte }, accessFlags := 0, code := some k7c7 }
/-- java/lang/String -/
def k7 : Class := { plain "java/lang/String" (some 0) with
  accessFlags := 49
  interfaces := #[2, 3, 4, 5, 6]
  cf := some (fileOf pool7 10 #[.nestMembers #[1103]] #[{ accessFlags := 1, nameIndex := 5, descriptorIndex := 6, attributes := #[] }, { accessFlags := 1, nameIndex := 5, descriptorIndex := 1010, attributes := #[] }, { accessFlags := 1, nameIndex := 5, descriptorIndex := 1233, attributes := #[] }, { accessFlags := 1, nameIndex := 507, descriptorIndex := 334, attributes := #[] }, { accessFlags := 0, nameIndex := 532, descriptorIndex := 821, attributes := #[] }, { accessFlags := 2, nameIndex := 5, descriptorIndex := 29, attributes := #[] }, { accessFlags := 0, nameIndex := 5, descriptorIndex := 491, attributes := #[] }, { accessFlags := 0, nameIndex := 17, descriptorIndex := 337, attributes := #[] }] 49 2 #[1106, 1108, 575, 1110, 1112] #[{ accessFlags := 18, nameIndex := 13, descriptorIndex := 14, attributes := #[] }, { accessFlags := 18, nameIndex := 17, descriptorIndex := 18, attributes := #[] }, { accessFlags := 2, nameIndex := 21, descriptorIndex := 22, attributes := #[] }, { accessFlags := 2, nameIndex := 25, descriptorIndex := 26, attributes := #[] }, { accessFlags := 26, nameIndex := 1116, descriptorIndex := 1117, attributes := #[] }, { accessFlags := 24, nameIndex := 40, descriptorIndex := 26, attributes := #[] }, { accessFlags := 26, nameIndex := 1101, descriptorIndex := 1102, attributes := #[] }, { accessFlags := 26, nameIndex := 1121, descriptorIndex := 1122, attributes := #[] }, { accessFlags := 25, nameIndex := 599, descriptorIndex := 600, attributes := #[] }, { accessFlags := 24, nameIndex := 1125, descriptorIndex := 18, attributes := #[] }, { accessFlags := 24, nameIndex := 1127, descriptorIndex := 18, attributes := #[] }])
  fields := #[{ name := "value", type := (.array .byte), accessFlags := 18, slot := 0, constantValue := 0 }, { name := "coder", type := .byte, accessFlags := 18, slot := 1, constantValue := 0 }, { name := "hash", type := .int, accessFlags := 2, slot := 2, constantValue := 0 }, { name := "hashIsZero", type := .boolean, accessFlags := 2, slot := 3, constantValue := 0 }, { name := "serialVersionUID", type := .long, accessFlags := 26, slot := 0, constantValue := 0 }, { name := "COMPACT_STRINGS", type := .boolean, accessFlags := 24, slot := 1, constantValue := 0 }, { name := "serialPersistentFields", type := (.array (.object "java/io/ObjectStreamField")), accessFlags := 26, slot := 2, constantValue := 0 }, { name := "REPL", type := .char, accessFlags := 26, slot := 3, constantValue := 0 }, { name := "CASE_INSENSITIVE_ORDER", type := (.object "java/util/Comparator"), accessFlags := 25, slot := 4, constantValue := 0 }, { name := "LATIN1", type := .byte, accessFlags := 24, slot := 5, constantValue := 0 }, { name := "UTF16", type := .byte, accessFlags := 24, slot := 6, constantValue := 0 }]
  methods := #[k7m0, k7m1, k7m2, k7m3, k7m4, k7m5, k7m6, k7m7]
  instanceTypes := #[(.array .byte), .byte, .int, .boolean]
  staticTypes := #[.long, .boolean, (.array (.object "java/io/ObjectStreamField")), .char, (.object "java/util/Comparator"), .byte, .byte]
  resolved := Array.replicate 1451 none
  statics := some 0 }

def pool8 : Array CpInfo := pool [(6, .class_ 8), (1, u "java/lang/Object"), (0, u "<init>"), (0, u "()V"), (1, .class_ 14), (1, u "java/lang/StringUTF16"), (31, u "$assertionsDisabled"), (0, u "Z"), (13, u "HI_BYTE_SHIFT"), (0, u "I"), (2, u "LO_BYTE_SHIFT"), (49, .methodref 12 116), (0, .nameAndType 117 118), (0, u "compress"), (0, u "([CI[BII)I"), (3, u "([CII)[B"), (138, u "coderFromArrayLen"), (0, u "([BI)B"), (106, .class_ 371), (1, u "java/lang/StringUTF16$LinesSpliterator"), (58, u "MAX_LENGTH"), (196, .class_ 628), (0, u "java/lang/StringUTF16$CodePointsSpliterator"), (0, .class_ 630), (0, u "java/lang/StringUTF16$CharsSpliterator")] 4

def k8m0 : Method := { name := "<init>", desc := "()V", sig := { parameters := [], returnType := none }, accessFlags := 0, code := none }
def k8c1 : Code := { maxStack := 2, maxLocals := 2, code := jdk_52_method_15_code, exceptionTable := #[], attributes := #[] }
def k8m1 : Method := { name := "coderFromArrayLen", desc := "([BI)B", sig := { parameters := [(.array .byte), .int], returnType := some .byte }, accessFlags := 8, code := some k8c1 }
def k8c2 : Code := { maxStack := 5, maxLocals := 6, code := jdk_52_method_16_code, exceptionTable := #[], attributes := #[] }
def k8m2 : Method := { name := "compress", desc := "([CII)[B", sig := { parameters := [(.array .char), .int, .int], returnType := some (.array .byte) }, accessFlags := 9, code := some k8c2 }
def k8c3 : Code := { maxStack := 3, maxLocals := 7, code := jdk_52_method_21_code, exceptionTable := #[], attributes := #[] }
def k8m3 : Method := { name := "compress", desc := "([CI[BII)I", sig := { parameters := [(.array .char), .int, (.array .byte), .int, .int], returnType := some .int }, accessFlags := 9, code := some k8c3 }
/-- java/lang/StringUTF16 -/
def k8 : Class := { plain "java/lang/StringUTF16" (some 0) with
  accessFlags := 48
  interfaces := #[]
  cf := some (fileOf pool8 12 #[.nestMembers #[627, 629, 369]] #[{ accessFlags := 0, nameIndex := 9, descriptorIndex := 10, attributes := #[] }, { accessFlags := 8, nameIndex := 261, descriptorIndex := 262, attributes := #[] }, { accessFlags := 9, nameIndex := 117, descriptorIndex := 122, attributes := #[] }, { accessFlags := 9, nameIndex := 117, descriptorIndex := 118, attributes := #[] }] 48 6 #[] #[{ accessFlags := 26, nameIndex := 61, descriptorIndex := 62, attributes := #[] }, { accessFlags := 26, nameIndex := 65, descriptorIndex := 62, attributes := #[] }, { accessFlags := 24, nameIndex := 430, descriptorIndex := 62, attributes := #[] }, { accessFlags := 4120, nameIndex := 46, descriptorIndex := 47, attributes := #[] }])
  fields := #[{ name := "HI_BYTE_SHIFT", type := .int, accessFlags := 26, slot := 0, constantValue := 0 }, { name := "LO_BYTE_SHIFT", type := .int, accessFlags := 26, slot := 1, constantValue := 0 }, { name := "MAX_LENGTH", type := .int, accessFlags := 24, slot := 2, constantValue := 0 }, { name := "$assertionsDisabled", type := .boolean, accessFlags := 4120, slot := 3, constantValue := 0 }]
  methods := #[k8m0, k8m1, k8m2, k8m3]
  instanceTypes := #[]
  staticTypes := #[.int, .int, .int, .boolean]
  resolved := Array.replicate 635 none
  statics := none }

def pool9 : Array CpInfo := pool [(1, .methodref 2 3), (0, .class_ 4), (0, .nameAndType 5 6), (0, u "java/lang/Object"), (0, u "<init>"), (0, u "()V"), (0, .fieldref 8 9), (0, .class_ 10), (0, .nameAndType 11 12), (0, u "java/lang/Throwable"), (0, u "cause"), (0, u "Ljava/lang/Throwable;"), (0, .fieldref 8 14), (0, .nameAndType 15 16), (0, u "UNASSIGNED_STACK"), (0, u "[Ljava/lang/StackTraceElement;"), (0, .fieldref 8 18), (0, .nameAndType 19 16), (0, u "stackTrace"), (0, .fieldref 8 21), (0, .nameAndType 22 23), (0, u "SUPPRESSED_SENTINEL"), (0, u "Ljava/util/List;"), (0, .fieldref 8 25), (0, .nameAndType 26 23), (0, u "suppressedExceptions"), (0, .methodref 8 28), (0, .nameAndType 29 30), (0, u "fillInStackTrace"), (0, u "()Ljava/lang/Throwable;"), (0, .fieldref 8 32), (0, .nameAndType 33 34), (0, u "detailMessage"), (0, u "Ljava/lang/String;"), (58, .class_ 94), (0, u "java/lang/Throwable$WrappedPrintStream"), (6, .class_ 103), (1, u "java/lang/Throwable$PrintStreamOrWriter"), (61, u "$assertionsDisabled"), (0, u "Z"), (26, .class_ 194), (0, u "java/lang/Throwable$WrappedPrintWriter"), (3, .fieldref 8 199), (0, .nameAndType 200 201), (0, u "backtrace"), (0, u "Ljava/lang/Object;"), (0, .methodref 8 203), (0, .nameAndType 29 204), (0, u "(I)Ljava/lang/Throwable;"), (6, u "depth"), (0, u "I"), (10, u "(Ljava/lang/String;)V"), (45, .class_ 271), (1, u "java/lang/Throwable$SentinelHolder"), (32, u "EMPTY_THROWABLE_ARRAY"), (0, u "[Ljava/lang/Throwable;"), (12, .class_ 319), (0, u "java/io/Serializable"), (0, u "serialVersionUID"), (0, u "J"), (5, u "NULL_CAUSE_MESSAGE"), (0, u "SELF_SUPPRESSION_MESSAGE"), (0, u "CAUSE_CAPTION"), (0, u "SUPPRESSED_CAPTION")] 73

def k9c0 : Code := { maxStack := 2, maxLocals := 1, code := jdk_78_method_1_code, exceptionTable := #[], attributes := #[] }
def k9m0 : Method := { name := "<init>", desc := "()V", sig := { parameters := [], returnType := none }, accessFlags := 1, code := some k9c0 }
def k9c1 : Code := { maxStack := 2, maxLocals := 2, code := jdk_78_method_2_code, exceptionTable := #[], attributes := #[] }
def k9m1 : Method := { name := "<init>", desc := "(Ljava/lang/String;)V", sig := { parameters := [(.object "java/lang/String")], returnType := none }, accessFlags := 1, code := some k9c1 }
def k9c2 : Code := { maxStack := 2, maxLocals := 1, code := jdk_78_method_18_code, exceptionTable := #[], attributes := #[] }
def k9m2 : Method := { name := "fillInStackTrace", desc := "()Ljava/lang/Throwable;", sig := { parameters := [], returnType := some (.object "java/lang/Throwable") }, accessFlags := 33, code := some k9c2 }
def k9m3 : Method := { name := "fillInStackTrace", desc := "(I)Ljava/lang/Throwable;", sig := { parameters := [.int], returnType := some (.object "java/lang/Throwable") }, accessFlags := 258, code := none }
/-- java/lang/Throwable -/
def k9 : Class := { plain "java/lang/Throwable" (some 0) with
  accessFlags := 33
  interfaces := #[2]
  cf := some (fileOf pool9 8 #[.nestMembers #[193, 93, 101, 269]] #[{ accessFlags := 1, nameIndex := 5, descriptorIndex := 6, attributes := #[] }, { accessFlags := 1, nameIndex := 5, descriptorIndex := 223, attributes := #[] }, { accessFlags := 33, nameIndex := 29, descriptorIndex := 30, attributes := #[] }, { accessFlags := 258, nameIndex := 29, descriptorIndex := 204, attributes := #[] }] 33 2 #[318] #[{ accessFlags := 26, nameIndex := 320, descriptorIndex := 321, attributes := #[] }, { accessFlags := 130, nameIndex := 200, descriptorIndex := 201, attributes := #[] }, { accessFlags := 2, nameIndex := 33, descriptorIndex := 34, attributes := #[] }, { accessFlags := 26, nameIndex := 15, descriptorIndex := 16, attributes := #[] }, { accessFlags := 2, nameIndex := 11, descriptorIndex := 12, attributes := #[] }, { accessFlags := 2, nameIndex := 19, descriptorIndex := 16, attributes := #[] }, { accessFlags := 130, nameIndex := 211, descriptorIndex := 212, attributes := #[] }, { accessFlags := 26, nameIndex := 22, descriptorIndex := 23, attributes := #[] }, { accessFlags := 2, nameIndex := 26, descriptorIndex := 23, attributes := #[] }, { accessFlags := 26, nameIndex := 327, descriptorIndex := 34, attributes := #[] }, { accessFlags := 26, nameIndex := 328, descriptorIndex := 34, attributes := #[] }, { accessFlags := 26, nameIndex := 329, descriptorIndex := 34, attributes := #[] }, { accessFlags := 26, nameIndex := 330, descriptorIndex := 34, attributes := #[] }, { accessFlags := 26, nameIndex := 304, descriptorIndex := 305, attributes := #[] }, { accessFlags := 4120, nameIndex := 165, descriptorIndex := 166, attributes := #[] }])
  fields := #[{ name := "serialVersionUID", type := .long, accessFlags := 26, slot := 0, constantValue := 0 }, { name := "backtrace", type := (.object "java/lang/Object"), accessFlags := 130, slot := 0, constantValue := 0 }, { name := "detailMessage", type := (.object "java/lang/String"), accessFlags := 2, slot := 1, constantValue := 0 }, { name := "UNASSIGNED_STACK", type := (.array (.object "java/lang/StackTraceElement")), accessFlags := 26, slot := 1, constantValue := 0 }, { name := "cause", type := (.object "java/lang/Throwable"), accessFlags := 2, slot := 2, constantValue := 0 }, { name := "stackTrace", type := (.array (.object "java/lang/StackTraceElement")), accessFlags := 2, slot := 3, constantValue := 0 }, { name := "depth", type := .int, accessFlags := 130, slot := 4, constantValue := 0 }, { name := "SUPPRESSED_SENTINEL", type := (.object "java/util/List"), accessFlags := 26, slot := 2, constantValue := 0 }, { name := "suppressedExceptions", type := (.object "java/util/List"), accessFlags := 2, slot := 5, constantValue := 0 }, { name := "NULL_CAUSE_MESSAGE", type := (.object "java/lang/String"), accessFlags := 26, slot := 3, constantValue := 0 }, { name := "SELF_SUPPRESSION_MESSAGE", type := (.object "java/lang/String"), accessFlags := 26, slot := 4, constantValue := 0 }, { name := "CAUSE_CAPTION", type := (.object "java/lang/String"), accessFlags := 26, slot := 5, constantValue := 0 }, { name := "SUPPRESSED_CAPTION", type := (.object "java/lang/String"), accessFlags := 26, slot := 6, constantValue := 0 }, { name := "EMPTY_THROWABLE_ARRAY", type := (.array (.object "java/lang/Throwable")), accessFlags := 26, slot := 7, constantValue := 0 }, { name := "$assertionsDisabled", type := .boolean, accessFlags := 4120, slot := 8, constantValue := 0 }]
  methods := #[k9m0, k9m1, k9m2, k9m3]
  instanceTypes := #[(.object "java/lang/Object"), (.object "java/lang/String"), (.object "java/lang/Throwable"), (.array (.object "java/lang/StackTraceElement")), .int, (.object "java/util/List")]
  staticTypes := #[.long, (.array (.object "java/lang/StackTraceElement")), (.object "java/util/List"), (.object "java/lang/String"), (.object "java/lang/String"), (.object "java/lang/String"), (.object "java/lang/String"), (.array (.object "java/lang/Throwable")), .boolean]
  resolved := Array.replicate 404 none
  statics := some 1 }

def pool10 : Array CpInfo := pool [(2, .class_ 4), (1, u "java/lang/Throwable"), (0, u "<init>"), (0, u "()V"), (0, .methodref 2 8), (0, .nameAndType 5 9), (0, u "(Ljava/lang/String;)V"), (9, .class_ 20), (0, u "java/lang/Exception"), (0, u "serialVersionUID"), (0, u "J")] 17

def k10m0 : Method := { name := "<init>", desc := "()V", sig := { parameters := [], returnType := none }, accessFlags := 1, code := none }
def k10c1 : Code := { maxStack := 2, maxLocals := 2, code := jdk_59_method_2_code, exceptionTable := #[], attributes := #[] }
def k10m1 : Method := { name := "<init>", desc := "(Ljava/lang/String;)V", sig := { parameters := [(.object "java/lang/String")], returnType := none }, accessFlags := 1, code := some k10c1 }
/-- java/lang/Exception -/
def k10 : Class := { plain "java/lang/Exception" (some 9) with
  accessFlags := 33
  interfaces := #[]
  cf := some (fileOf pool10 19 #[] #[{ accessFlags := 1, nameIndex := 5, descriptorIndex := 6, attributes := #[] }, { accessFlags := 1, nameIndex := 5, descriptorIndex := 9, attributes := #[] }] 33 2 #[] #[{ accessFlags := 24, nameIndex := 21, descriptorIndex := 22, attributes := #[] }])
  fields := #[{ name := "serialVersionUID", type := .long, accessFlags := 24, slot := 0, constantValue := 0 }]
  methods := #[k10m0, k10m1]
  instanceTypes := #[(.object "java/lang/Object"), (.object "java/lang/String"), (.object "java/lang/Throwable"), (.array (.object "java/lang/StackTraceElement")), .int, (.object "java/util/List")]
  staticTypes := #[.long]
  resolved := Array.replicate 40 none
  statics := none }

def pool11 : Array CpInfo := pool [(2, .class_ 4), (1, u "java/lang/Exception"), (0, u "<init>"), (0, u "()V"), (0, .methodref 2 8), (0, .nameAndType 5 9), (0, u "(Ljava/lang/String;)V"), (6, .class_ 17), (0, u "java/io/IOException"), (0, u "serialVersionUID"), (0, u "J")] 14

def k11m0 : Method := { name := "<init>", desc := "()V", sig := { parameters := [], returnType := none }, accessFlags := 1, code := none }
def k11c1 : Code := { maxStack := 2, maxLocals := 2, code := jdk_131_method_2_code, exceptionTable := #[], attributes := #[] }
def k11m1 : Method := { name := "<init>", desc := "(Ljava/lang/String;)V", sig := { parameters := [(.object "java/lang/String")], returnType := none }, accessFlags := 1, code := some k11c1 }
/-- java/io/IOException -/
def k11 : Class := { plain "java/io/IOException" (some 10) with
  accessFlags := 33
  interfaces := #[]
  cf := some (fileOf pool11 16 #[] #[{ accessFlags := 1, nameIndex := 5, descriptorIndex := 6, attributes := #[] }, { accessFlags := 1, nameIndex := 5, descriptorIndex := 9, attributes := #[] }] 33 2 #[] #[{ accessFlags := 24, nameIndex := 18, descriptorIndex := 19, attributes := #[] }])
  fields := #[{ name := "serialVersionUID", type := .long, accessFlags := 24, slot := 0, constantValue := 0 }]
  methods := #[k11m0, k11m1]
  instanceTypes := #[(.object "java/lang/Object"), (.object "java/lang/String"), (.object "java/lang/Throwable"), (.array (.object "java/lang/StackTraceElement")), .int, (.object "java/util/List")]
  staticTypes := #[.long]
  resolved := Array.replicate 34 none
  statics := none }

def pool12 : Array CpInfo := pool [(1, .class_ 2), (0, u "java/lang/StringBuilder"), (0, .methodref 1 4), (0, .nameAndType 5 6), (0, u "<init>"), (0, u "()V"), (0, .string 8), (0, u "the broker closed the "), (0, .methodref 1 10), (0, .nameAndType 11 12), (0, u "append"), (0, u "(Ljava/lang/String;)Ljava/lang/StringBuilder;"), (0, .string 14), (0, u "channel"), (0, .string 16), (0, u "connection"), (0, .string 18), (0, u ": "), (0, .methodref 1 20), (0, .nameAndType 11 21), (0, u "(I)Ljava/lang/StringBuilder;"), (0, .string 23), (0, u " "), (0, .methodref 1 25), (0, .nameAndType 26 27), (0, u "toString"), (0, u "()Ljava/lang/String;"), (0, .methodref 29 30), (0, .class_ 31), (0, .nameAndType 5 32), (0, u "java/io/IOException"), (0, u "(Ljava/lang/String;)V"), (0, .fieldref 34 35), (0, .class_ 36), (0, .nameAndType 14 37), (0, u "com/example/dispatchbook/dispatchbook/amqp/BrokerClosedException"), (0, u "Z"), (0, .fieldref 34 39), (0, .nameAndType 40 41), (0, u "replyCode"), (0, u "I"), (0, u "serialVersionUID"), (0, u "J"), (3, u "PRECONDITION_FAILED"), (1, u "(ZILjava/lang/String;)V"), (6, u "refusedMessage"), (0, u "()Z")] 2

def k12c0 : Code := { maxStack := 3, maxLocals := 4, code := prog_8_method_1_code, exceptionTable := #[], attributes := #[] }
def k12m0 : Method := { name := "<init>", desc := "(ZILjava/lang/String;)V", sig := { parameters := [.boolean, .int, (.object "java/lang/String")], returnType := none }, accessFlags := 0, code := some k12c0 }
def k12c1 : Code := { maxStack := 2, maxLocals := 1, code := prog_8_method_3_code, exceptionTable := #[], attributes := #[] }
def k12m1 : Method := { name := "refusedMessage", desc := "()Z", sig := { parameters := [], returnType := some .boolean }, accessFlags := 1, code := some k12c1 }
/-- com/example/dispatchbook/dispatchbook/amqp/BrokerClosedException -/
def k12 : Class := { plain "com/example/dispatchbook/dispatchbook/amqp/BrokerClosedException" (some 11) with
  accessFlags := 49
  interfaces := #[]
  cf := some (fileOf pool12 34 #[] #[{ accessFlags := 0, nameIndex := 5, descriptorIndex := 49, attributes := #[] }, { accessFlags := 1, nameIndex := 56, descriptorIndex := 57, attributes := #[] }] 49 29 #[] #[{ accessFlags := 26, nameIndex := 42, descriptorIndex := 43, attributes := #[] }, { accessFlags := 26, nameIndex := 47, descriptorIndex := 41, attributes := #[] }, { accessFlags := 18, nameIndex := 14, descriptorIndex := 37, attributes := #[] }, { accessFlags := 18, nameIndex := 40, descriptorIndex := 41, attributes := #[] }])
  fields := #[{ name := "serialVersionUID", type := .long, accessFlags := 26, slot := 0, constantValue := 0 }, { name := "PRECONDITION_FAILED", type := .int, accessFlags := 26, slot := 1, constantValue := 0 }, { name := "channel", type := .boolean, accessFlags := 18, slot := 6, constantValue := 0 }, { name := "replyCode", type := .int, accessFlags := 18, slot := 7, constantValue := 0 }]
  methods := #[k12m0, k12m1]
  instanceTypes := #[(.object "java/lang/Object"), (.object "java/lang/String"), (.object "java/lang/Throwable"), (.array (.object "java/lang/StackTraceElement")), .int, (.object "java/util/List"), .boolean, .int]
  staticTypes := #[.long, .int]
  resolved := Array.replicate 60 none
  statics := none }

def pool13 : Array CpInfo := pool [(1, .class_ 2), (0, u "java/lang/Appendable"), (0, .class_ 4), (0, u "java/lang/Object")] 9

/-- java/lang/Appendable -/
def k13 : Class := { plain "java/lang/Appendable" (some 0) with
  accessFlags := 1537
  interfaces := #[]
  cf := some (fileOf pool13 1 #[] #[] 1537 3 #[] #[])
  fields := #[]
  methods := #[]
  instanceTypes := #[]
  staticTypes := #[]
  resolved := Array.replicate 14 none
  statics := none }

def pool14 : Array CpInfo := pool [(1, .class_ 2), (0, u "java/lang/String"), (0, .methodref 4 5), (0, .class_ 6), (0, .nameAndType 7 8), (0, u "java/lang/Object"), (0, u "<init>"), (0, u "()V"), (1, .class_ 12), (1, u "java/lang/AbstractStringBuilder"), (0, u "EMPTYVALUE"), (0, u "[B"), (0, .fieldref 10 16), (0, .nameAndType 17 14), (0, u "value"), (0, .fieldref 1 19), (0, .nameAndType 20 21), (0, u "COMPACT_STRINGS"), (0, u "Z"), (0, .fieldref 10 23), (0, .nameAndType 24 25), (0, u "coder"), (0, u "B"), (6, .methodref 1 33), (0, .nameAndType 34 35), (0, u "length"), (0, u "()I"), (0, .class_ 37), (0, u "java/lang/Integer"), (1, .integer 2147483647), (0, .methodref 1 41), (0, .nameAndType 24 42), (0, u "()B"), (2, u "append"), (0, u "(Ljava/lang/String;)Ljava/lang/AbstractStringBuilder;"), (1, .class_ 49), (0, u "java/lang/CharSequence"), (19, u "(Ljava/lang/String;)V"), (5, u "maybeLatin1"), (3, .fieldref 10 80), (0, .nameAndType 81 82), (0, u "count"), (0, u "I"), (0, .methodref 10 84), (0, .nameAndType 85 86), (0, u "isLatin1"), (0, u "()Z"), (13, .methodref 10 101), (0, .nameAndType 102 103), (0, u "ensureCapacityInternal"), (0, u "(I)V"), (0, .methodref 10 105), (0, .nameAndType 106 107), (0, u "newCapacity"), (0, u "(I)I"), (0, .methodref 109 110), (0, .class_ 111), (0, .nameAndType 112 113), (0, u "java/util/Arrays"), (0, u "copyOf"), (0, u "([BI)[B"), (0, .methodref 115 116), (0, .class_ 117), (0, .nameAndType 118 119), (0, u "jdk/internal/util/ArraysSupport"), (0, u "newLength"), (0, u "(III)I"), (68, u "getChars"), (19, .methodref 10 209), (0, .nameAndType 210 211), (0, u "putStringAt"), (0, u "(ILjava/lang/String;)V"), (5, u "inflateIfNeededFor"), (2, .nameAndType 221 222), (0, u "getBytes"), (0, u "([BIB)V"), (22, .methodref 36 246), (0, .nameAndType 247 107), (0, u "stringSize"), (0, .methodref 36 249), (0, .nameAndType 188 250), (0, u "(II[B)I"), (146, .methodref 10 398), (0, .nameAndType 217 69), (0, .methodref 1 220), (3, u "()[B"), (40, .class_ 445), (0, u "java/lang/Appendable"), (65, u "(I)Ljava/lang/AbstractStringBuilder;"), (40, u "getValue")] 56

def k14m0 : Method := { name := "<init>", desc := "()V", sig := { parameters := [], returnType := none }, accessFlags := 0, code := none }
def k14c1 : Code := { maxStack := 2, maxLocals := 2, code := jdk_68_method_2_code, exceptionTable := #[], attributes := #[] }
def k14m1 : Method := { name := "<init>", desc := "(I)V", sig := { parameters := [.int], returnType := none }, accessFlags := 0, code := some k14c1 }
def k14c2 : Code := { maxStack := 1, maxLocals := 1, code := jdk_68_method_6_code, exceptionTable := #[], attributes := #[] }
def k14m2 : Method := { name := "length", desc := "()I", sig := { parameters := [], returnType := some .int }, accessFlags := 1, code := some k14c2 }
def k14c3 : Code := { maxStack := 4, maxLocals := 3, code := jdk_68_method_9_code, exceptionTable := #[], attributes := #[] }
def k14m3 : Method := { name := "ensureCapacityInternal", desc := "(I)V", sig := { parameters := [.int], returnType := none }, accessFlags := 2, code := some k14c3 }
def k14c4 : Code := { maxStack := 5, maxLocals := 6, code := jdk_68_method_10_code, exceptionTable := #[], attributes := #[] }
def k14m4 : Method := { name := "newCapacity", desc := "(I)I", sig := { parameters := [.int], returnType := some .int }, accessFlags := 2, code := some k14c4 }
def k14c5 : Code := { maxStack := 3, maxLocals := 3, code := jdk_68_method_22_code, exceptionTable := #[], attributes := #[] }
def k14m5 : Method := { name := "append", desc := "(Ljava/lang/String;)Ljava/lang/AbstractStringBuilder;", sig := { parameters := [(.object "java/lang/String")], returnType := some (.object "java/lang/AbstractStringBuilder") }, accessFlags := 1, code := some k14c5 }
def k14c6 : Code := { maxStack := 4, maxLocals := 4, code := jdk_68_method_32_code, exceptionTable := #[], attributes := #[] }
def k14m6 : Method := { name := "append", desc := "(I)Ljava/lang/AbstractStringBuilder;", sig := { parameters := [.int], returnType := some (.object "java/lang/AbstractStringBuilder") }, accessFlags := 1, code := some k14c6 }
def k14c7 : Code := { maxStack := 1, maxLocals := 1, code := jdk_68_method_64_code, exceptionTable := #[], attributes := #[] }
def k14m7 : Method := { name := "getValue", desc := "()[B", sig := { parameters := [], returnType := some (.array .byte) }, accessFlags := 16, code := some k14c7 }
def k14c8 : Code := { maxStack := 1, maxLocals := 1, code := jdk_68_method_68_code, exceptionTable := #[], attributes := #[] }
def k14m8 : Method := { name := "isLatin1", desc := "()Z", sig := { parameters := [], returnType := some .boolean }, accessFlags := 16, code := some k14c8 }
def k14c9 : Code := { maxStack := 2, maxLocals := 2, code := jdk_68_method_71_code, exceptionTable := #[], attributes := #[] }
def k14m9 : Method := { name := "inflateIfNeededFor", desc := "(Ljava/lang/String;)V", sig := { parameters := [(.object "java/lang/String")], returnType := none }, accessFlags := 2, code := some k14c9 }
def k14c10 : Code := { maxStack := 4, maxLocals := 3, code := jdk_68_method_73_code, exceptionTable := #[], attributes := #[] }
def k14m10 : Method := { name := "putStringAt", desc := "(ILjava/lang/String;)V", sig := { parameters := [.int, (.object "java/lang/String")], returnType := none }, accessFlags := 2, code := some k14c10 }
/-- java/lang/AbstractStringBuilder -/
def k14 : Class := { plain "java/lang/AbstractStringBuilder" (some 0) with
  accessFlags := 1056
  interfaces := #[13, 4]
  cf := some (fileOf pool14 10 #[] #[{ accessFlags := 0, nameIndex := 7, descriptorIndex := 8, attributes := #[] }, { accessFlags := 0, nameIndex := 7, descriptorIndex := 103, attributes := #[] }, { accessFlags := 1, nameIndex := 34, descriptorIndex := 35, attributes := #[] }, { accessFlags := 2, nameIndex := 102, descriptorIndex := 103, attributes := #[] }, { accessFlags := 2, nameIndex := 106, descriptorIndex := 107, attributes := #[] }, { accessFlags := 1, nameIndex := 45, descriptorIndex := 46, attributes := #[] }, { accessFlags := 1, nameIndex := 45, descriptorIndex := 511, attributes := #[] }, { accessFlags := 16, nameIndex := 552, descriptorIndex := 403, attributes := #[] }, { accessFlags := 16, nameIndex := 85, descriptorIndex := 86, attributes := #[] }, { accessFlags := 2, nameIndex := 217, descriptorIndex := 69, attributes := #[] }, { accessFlags := 2, nameIndex := 210, descriptorIndex := 211, attributes := #[] }] 1056 4 #[444, 48] #[{ accessFlags := 0, nameIndex := 17, descriptorIndex := 14, attributes := #[] }, { accessFlags := 0, nameIndex := 24, descriptorIndex := 25, attributes := #[] }, { accessFlags := 0, nameIndex := 75, descriptorIndex := 21, attributes := #[] }, { accessFlags := 0, nameIndex := 81, descriptorIndex := 82, attributes := #[] }, { accessFlags := 26, nameIndex := 13, descriptorIndex := 14, attributes := #[] }])
  fields := #[{ name := "value", type := (.array .byte), accessFlags := 0, slot := 0, constantValue := 0 }, { name := "coder", type := .byte, accessFlags := 0, slot := 1, constantValue := 0 }, { name := "maybeLatin1", type := .boolean, accessFlags := 0, slot := 2, constantValue := 0 }, { name := "count", type := .int, accessFlags := 0, slot := 3, constantValue := 0 }, { name := "EMPTYVALUE", type := (.array .byte), accessFlags := 26, slot := 0, constantValue := 0 }]
  methods := #[k14m0, k14m1, k14m2, k14m3, k14m4, k14m5, k14m6, k14m7, k14m8, k14m9, k14m10]
  instanceTypes := #[(.array .byte), .byte, .boolean, .int]
  staticTypes := #[(.array .byte)]
  resolved := Array.replicate 609 none
  statics := none }

def pool15 : Array CpInfo := pool [(1, .methodref 2 3), (0, .class_ 4), (0, .nameAndType 5 6), (0, u "java/lang/AbstractStringBuilder"), (0, u "<init>"), (0, u "(I)V"), (11, .class_ 20), (1, u "java/lang/String"), (3, .class_ 26), (1, u "java/lang/StringBuilder"), (0, u "append"), (0, u "(Ljava/lang/String;)Ljava/lang/StringBuilder;"), (0, .methodref 2 30), (0, .nameAndType 27 31), (0, u "(Ljava/lang/String;)Ljava/lang/AbstractStringBuilder;"), (21, .methodref 2 54), (0, .nameAndType 27 55), (0, u "(I)Ljava/lang/AbstractStringBuilder;"), (81, .methodref 18 138), (0, .nameAndType 5 139), (0, u "(Ljava/lang/StringBuilder;)V"), (5, u "()V"), (10, u "()I"), (111, u "(I)Ljava/lang/StringBuilder;"), (74, .methodref 2 344), (0, .nameAndType 345 156), (0, u "length"), (3, .class_ 350), (0, u "java/lang/Appendable"), (0, .class_ 352), (0, u "java/io/Serializable"), (0, .class_ 354), (0, u "java/lang/Comparable"), (0, .class_ 356), (0, u "java/lang/CharSequence"), (0, u "serialVersionUID"), (0, u "J"), (40, u "toString"), (0, u "()Ljava/lang/String;")] 21

def k15c0 : Code := { maxStack := 2, maxLocals := 1, code := jdk_67_method_1_code, exceptionTable := #[], attributes := #[] }
def k15m0 : Method := { name := "<init>", desc := "()V", sig := { parameters := [], returnType := none }, accessFlags := 1, code := some k15c0 }
def k15c1 : Code := { maxStack := 2, maxLocals := 2, code := jdk_67_method_7_code, exceptionTable := #[], attributes := #[] }
def k15m1 : Method := { name := "append", desc := "(Ljava/lang/String;)Ljava/lang/StringBuilder;", sig := { parameters := [(.object "java/lang/String")], returnType := some (.object "java/lang/StringBuilder") }, accessFlags := 1, code := some k15c1 }
def k15c2 : Code := { maxStack := 2, maxLocals := 2, code := jdk_67_method_15_code, exceptionTable := #[], attributes := #[] }
def k15m2 : Method := { name := "append", desc := "(I)Ljava/lang/StringBuilder;", sig := { parameters := [.int], returnType := some (.object "java/lang/StringBuilder") }, accessFlags := 1, code := some k15c2 }
def k15c3 : Code := { maxStack := 3, maxLocals := 1, code := jdk_67_method_42_code, exceptionTable := #[], attributes := #[] }
def k15m3 : Method := { name := "toString", desc := "()Ljava/lang/String;", sig := { parameters := [], returnType := some (.object "java/lang/String") }, accessFlags := 1, code := some k15c3 }
def k15c4 : Code := { maxStack := 1, maxLocals := 1, code := jdk_67_method_93_code, exceptionTable := #[], attributes := #[] }
def k15m4 : Method := { name := "length", desc := "()I", sig := { parameters := [], returnType := some .int }, accessFlags := 4161, code := some k15c4 }
/-- java/lang/StringBuilder -/
def k15 : Class := { plain "java/lang/StringBuilder" (some 14) with
  accessFlags := 49
  interfaces := #[13, 2, 3, 4]
  cf := some (fileOf pool15 24 #[] #[{ accessFlags := 1, nameIndex := 5, descriptorIndex := 145, attributes := #[] }, { accessFlags := 1, nameIndex := 27, descriptorIndex := 28, attributes := #[] }, { accessFlags := 1, nameIndex := 27, descriptorIndex := 268, attributes := #[] }, { accessFlags := 1, nameIndex := 399, descriptorIndex := 400, attributes := #[] }, { accessFlags := 4161, nameIndex := 345, descriptorIndex := 156, attributes := #[] }] 49 2 #[349, 351, 353, 355] #[{ accessFlags := 24, nameIndex := 357, descriptorIndex := 358, attributes := #[] }])
  fields := #[{ name := "serialVersionUID", type := .long, accessFlags := 24, slot := 0, constantValue := 0 }]
  methods := #[k15m0, k15m1, k15m2, k15m3, k15m4]
  instanceTypes := #[(.array .byte), .byte, .boolean, .int]
  staticTypes := #[.long]
  resolved := Array.replicate 422 none
  statics := none }

def pool16 : Array CpInfo := pool [(9, u "<init>"), (6, .class_ 18), (1, u "java/lang/Object"), (0, u "()V"), (1, .class_ 23), (1, u "jdk/internal/util/ArraysSupport"), (0, u "LOG2_ARRAY_LONG_INDEX_SCALE"), (0, u "I"), (2, u "U"), (0, u "Ljdk/internal/misc/Unsafe;"), (8, u "BIG_ENDIAN"), (0, u "Z"), (8, u "LOG2_BYTE_BIT_SIZE"), (4, u "LOG2_ARRAY_INT_INDEX_SCALE"), (54, u "JLA"), (0, u "Ljdk/internal/access/JavaLangAccess;"), (11, u "LOG2_ARRAY_BOOLEAN_INDEX_SCALE"), (9, u "LOG2_ARRAY_BYTE_INDEX_SCALE"), (5, u "LOG2_ARRAY_CHAR_INDEX_SCALE"), (5, u "LOG2_ARRAY_SHORT_INDEX_SCALE"), (18, u "LOG2_ARRAY_FLOAT_INDEX_SCALE"), (24, u "LOG2_ARRAY_DOUBLE_INDEX_SCALE"), (6, .methodref 195 196), (0, .class_ 197), (0, .nameAndType 198 199), (0, u "java/lang/Math"), (0, u "max"), (0, u "(II)I"), (0, .integer 2147483639), (76, u "T_BOOLEAN"), (2, u "T_CHAR"), (1, u "T_FLOAT"), (1, u "T_DOUBLE"), (1, u "T_BYTE"), (1, u "T_SHORT"), (1, u "T_INT"), (1, u "T_LONG"), (1, u "SOFT_MAX_ARRAY_LENGTH"), (56, u "newLength"), (0, u "(III)I")] 25

def k16m0 : Method := { name := "<init>", desc := "()V", sig := { parameters := [], returnType := none }, accessFlags := 2, code := none }
def k16c1 : Code := { maxStack := 3, maxLocals := 4, code := jdk_48_method_27_code, exceptionTable := #[], attributes := #[] }
def k16m1 : Method := { name := "newLength", desc := "(III)I", sig := { parameters := [.int, .int, .int], returnType := some .int }, accessFlags := 9, code := some k16c1 }
/-- jdk/internal/util/ArraysSupport -/
def k16 : Class := { plain "jdk/internal/util/ArraysSupport" (some 0) with
  accessFlags := 33
  interfaces := #[]
  cf := some (fileOf pool16 21 #[] #[{ accessFlags := 2, nameIndex := 9, descriptorIndex := 19, attributes := #[] }, { accessFlags := 9, nameIndex := 351, descriptorIndex := 352, attributes := #[] }] 33 16 #[] #[{ accessFlags := 24, nameIndex := 28, descriptorIndex := 29, attributes := #[] }, { accessFlags := 26, nameIndex := 38, descriptorIndex := 39, attributes := #[] }, { accessFlags := 25, nameIndex := 121, descriptorIndex := 25, attributes := #[] }, { accessFlags := 25, nameIndex := 131, descriptorIndex := 25, attributes := #[] }, { accessFlags := 25, nameIndex := 137, descriptorIndex := 25, attributes := #[] }, { accessFlags := 25, nameIndex := 143, descriptorIndex := 25, attributes := #[] }, { accessFlags := 25, nameIndex := 53, descriptorIndex := 25, attributes := #[] }, { accessFlags := 25, nameIndex := 24, descriptorIndex := 25, attributes := #[] }, { accessFlags := 25, nameIndex := 162, descriptorIndex := 25, attributes := #[] }, { accessFlags := 25, nameIndex := 187, descriptorIndex := 25, attributes := #[] }, { accessFlags := 26, nameIndex := 48, descriptorIndex := 25, attributes := #[] }, { accessFlags := 25, nameIndex := 277, descriptorIndex := 25, attributes := #[] }, { accessFlags := 25, nameIndex := 280, descriptorIndex := 25, attributes := #[] }, { accessFlags := 25, nameIndex := 282, descriptorIndex := 25, attributes := #[] }, { accessFlags := 25, nameIndex := 284, descriptorIndex := 25, attributes := #[] }, { accessFlags := 25, nameIndex := 286, descriptorIndex := 25, attributes := #[] }, { accessFlags := 25, nameIndex := 288, descriptorIndex := 25, attributes := #[] }, { accessFlags := 25, nameIndex := 290, descriptorIndex := 25, attributes := #[] }, { accessFlags := 25, nameIndex := 292, descriptorIndex := 25, attributes := #[] }, { accessFlags := 26, nameIndex := 108, descriptorIndex := 109, attributes := #[] }, { accessFlags := 25, nameIndex := 294, descriptorIndex := 25, attributes := #[] }])
  fields := #[{ name := "U", type := (.object "jdk/internal/misc/Unsafe"), accessFlags := 24, slot := 0, constantValue := 0 }, { name := "BIG_ENDIAN", type := .boolean, accessFlags := 26, slot := 1, constantValue := 0 }, { name := "LOG2_ARRAY_BOOLEAN_INDEX_SCALE", type := .int, accessFlags := 25, slot := 2, constantValue := 0 }, { name := "LOG2_ARRAY_BYTE_INDEX_SCALE", type := .int, accessFlags := 25, slot := 3, constantValue := 0 }, { name := "LOG2_ARRAY_CHAR_INDEX_SCALE", type := .int, accessFlags := 25, slot := 4, constantValue := 0 }, { name := "LOG2_ARRAY_SHORT_INDEX_SCALE", type := .int, accessFlags := 25, slot := 5, constantValue := 0 }, { name := "LOG2_ARRAY_INT_INDEX_SCALE", type := .int, accessFlags := 25, slot := 6, constantValue := 0 }, { name := "LOG2_ARRAY_LONG_INDEX_SCALE", type := .int, accessFlags := 25, slot := 7, constantValue := 0 }, { name := "LOG2_ARRAY_FLOAT_INDEX_SCALE", type := .int, accessFlags := 25, slot := 8, constantValue := 0 }, { name := "LOG2_ARRAY_DOUBLE_INDEX_SCALE", type := .int, accessFlags := 25, slot := 9, constantValue := 0 }, { name := "LOG2_BYTE_BIT_SIZE", type := .int, accessFlags := 26, slot := 10, constantValue := 0 }, { name := "T_BOOLEAN", type := .int, accessFlags := 25, slot := 11, constantValue := 0 }, { name := "T_CHAR", type := .int, accessFlags := 25, slot := 12, constantValue := 0 }, { name := "T_FLOAT", type := .int, accessFlags := 25, slot := 13, constantValue := 0 }, { name := "T_DOUBLE", type := .int, accessFlags := 25, slot := 14, constantValue := 0 }, { name := "T_BYTE", type := .int, accessFlags := 25, slot := 15, constantValue := 0 }, { name := "T_SHORT", type := .int, accessFlags := 25, slot := 16, constantValue := 0 }, { name := "T_INT", type := .int, accessFlags := 25, slot := 17, constantValue := 0 }, { name := "T_LONG", type := .int, accessFlags := 25, slot := 18, constantValue := 0 }, { name := "JLA", type := (.object "jdk/internal/access/JavaLangAccess"), accessFlags := 26, slot := 19, constantValue := 0 }, { name := "SOFT_MAX_ARRAY_LENGTH", type := .int, accessFlags := 25, slot := 20, constantValue := 0 }]
  methods := #[k16m0, k16m1]
  instanceTypes := #[]
  staticTypes := #[(.object "jdk/internal/misc/Unsafe"), .boolean, .int, .int, .int, .int, .int, .int, .int, .int, .int, .int, .int, .int, .int, .int, .int, .int, .int, (.object "jdk/internal/access/JavaLangAccess"), .int]
  resolved := Array.replicate 378 none
  statics := none }

def pool17 : Array CpInfo := pool [(1, .class_ 2), (0, u "java/lang/Math"), (1, .class_ 6), (1, u "java/lang/Object"), (0, u "<init>"), (0, u "()V"), (89, .class_ 100), (1, u "java/lang/Math$RandomNumberGeneratorHolder"), (71, u "negativeZeroFloatBits"), (0, u "J"), (2, u "negativeZeroDoubleBits"), (21, u "max"), (2, u "min"), (43, u "$assertionsDisabled"), (0, u "Z"), (88, u "(II)I"), (2, u "twoToTheDoubleScaleDown"), (0, u "D"), (4, u "twoToTheDoubleScaleUp"), (9, u "E"), (3, u "PI"), (2, u "TAU"), (2, u "DEGREES_TO_RADIANS"), (0, u "RADIANS_TO_DEGREES")] 94

def k17m0 : Method := { name := "<init>", desc := "()V", sig := { parameters := [], returnType := none }, accessFlags := 2, code := none }
def k17c1 : Code := { maxStack := 2, maxLocals := 2, code := jdk_29_method_65_code, exceptionTable := #[], attributes := #[] }
def k17m1 : Method := { name := "max", desc := "(II)I", sig := { parameters := [.int, .int], returnType := some .int }, accessFlags := 9, code := some k17c1 }
def k17c2 : Code := { maxStack := 2, maxLocals := 2, code := jdk_29_method_69_code, exceptionTable := #[], attributes := #[] }
def k17m2 : Method := { name := "min", desc := "(II)I", sig := { parameters := [.int, .int], returnType := some .int }, accessFlags := 9, code := some k17c2 }
/-- java/lang/Math -/
def k17 : Class := { plain "java/lang/Math" (some 0) with
  accessFlags := 49
  interfaces := #[]
  cf := some (fileOf pool17 1 #[.nestMembers #[98]] #[{ accessFlags := 2, nameIndex := 7, descriptorIndex := 8, attributes := #[] }, { accessFlags := 9, nameIndex := 198, descriptorIndex := 335, attributes := #[] }, { accessFlags := 9, nameIndex := 201, descriptorIndex := 335, attributes := #[] }] 49 4 #[] #[{ accessFlags := 25, nameIndex := 354, descriptorIndex := 339, attributes := #[] }, { accessFlags := 25, nameIndex := 358, descriptorIndex := 339, attributes := #[] }, { accessFlags := 25, nameIndex := 361, descriptorIndex := 339, attributes := #[] }, { accessFlags := 26, nameIndex := 364, descriptorIndex := 339, attributes := #[] }, { accessFlags := 26, nameIndex := 365, descriptorIndex := 339, attributes := #[] }, { accessFlags := 26, nameIndex := 172, descriptorIndex := 173, attributes := #[] }, { accessFlags := 26, nameIndex := 176, descriptorIndex := 173, attributes := #[] }, { accessFlags := 8, nameIndex := 344, descriptorIndex := 339, attributes := #[] }, { accessFlags := 8, nameIndex := 338, descriptorIndex := 339, attributes := #[] }, { accessFlags := 4120, nameIndex := 245, descriptorIndex := 246, attributes := #[] }])
  fields := #[{ name := "E", type := .double, accessFlags := 25, slot := 0, constantValue := 0 }, { name := "PI", type := .double, accessFlags := 25, slot := 1, constantValue := 0 }, { name := "TAU", type := .double, accessFlags := 25, slot := 2, constantValue := 0 }, { name := "DEGREES_TO_RADIANS", type := .double, accessFlags := 26, slot := 3, constantValue := 0 }, { name := "RADIANS_TO_DEGREES", type := .double, accessFlags := 26, slot := 4, constantValue := 0 }, { name := "negativeZeroFloatBits", type := .long, accessFlags := 26, slot := 5, constantValue := 0 }, { name := "negativeZeroDoubleBits", type := .long, accessFlags := 26, slot := 6, constantValue := 0 }, { name := "twoToTheDoubleScaleUp", type := .double, accessFlags := 8, slot := 7, constantValue := 0 }, { name := "twoToTheDoubleScaleDown", type := .double, accessFlags := 8, slot := 8, constantValue := 0 }, { name := "$assertionsDisabled", type := .boolean, accessFlags := 4120, slot := 9, constantValue := 0 }]
  methods := #[k17m0, k17m1, k17m2]
  instanceTypes := #[]
  staticTypes := #[.double, .double, .double, .double, .double, .long, .long, .double, .double, .boolean]
  resolved := Array.replicate 460 none
  statics := none }

def pool18 : Array CpInfo := pool [(2, .class_ 4), (1, u "java/lang/Object"), (0, u "<init>"), (0, u "()V"), (7, .class_ 16), (1, u "java/util/Arrays"), (57, .class_ 76), (1, u "java/util/Arrays$NaturalOrder"), (32, u "()Ljava/lang/Object;"), (3, .class_ 115), (1, u "java/util/Arrays$LegacyMergeSort"), (1, u "Z"), (10, .nameAndType 129 109), (0, u "clone"), (9, u "copyOfRange"), (10, .methodref 151 152), (0, .class_ 153), (0, .nameAndType 154 155), (0, u "java/lang/System"), (0, u "arraycopy"), (0, u "(Ljava/lang/Object;ILjava/lang/Object;II)V"), (146, u "copyOf"), (1, .methodref 305 306), (0, .class_ 307), (0, .nameAndType 308 309), (0, u "java/lang/Math"), (0, u "min"), (0, u "(II)I"), (0, .methodref 311 128), (0, .class_ 312), (0, u "[B"), (26, .methodref 14 340), (0, .nameAndType 341 342), (0, u "copyOfRangeByte"), (0, u "([BII)[B"), (0, .methodref 14 344), (0, .nameAndType 345 346), (0, u "checkLength"), (0, u "(II)V"), (28, .class_ 376), (0, u "java/util/Arrays$ArrayList"), (68, u "$assertionsDisabled"), (269, u "MIN_ARRAY_SORT_GRAN"), (0, u "I"), (2, u "INSERTIONSORT_THRESHOLD"), (149, u "([BI)[B"), (105, .class_ 976), (0, u "java/util/Arrays$ArrayItr")] 52

def k18m0 : Method := { name := "<init>", desc := "()V", sig := { parameters := [], returnType := none }, accessFlags := 2, code := none }
def k18c1 : Code := { maxStack := 6, maxLocals := 3, code := jdk_65_method_121_code, exceptionTable := #[], attributes := #[] }
def k18m1 : Method := { name := "copyOf", desc := "([BI)[B", sig := { parameters := [(.array .byte), .int], returnType := some (.array .byte) }, accessFlags := 9, code := some k18c1 }
def k18c2 : Code := { maxStack := 4, maxLocals := 2, code := jdk_65_method_131_code, exceptionTable := #[], attributes := #[] }
def k18m2 : Method := { name := "checkLength", desc := "(II)V", sig := { parameters := [.int, .int], returnType := none }, accessFlags := 10, code := some k18c2 }
def k18c3 : Code := { maxStack := 3, maxLocals := 3, code := jdk_65_method_132_code, exceptionTable := #[], attributes := #[] }
def k18m3 : Method := { name := "copyOfRange", desc := "([BII)[B", sig := { parameters := [(.array .byte), .int, .int], returnType := some (.array .byte) }, accessFlags := 9, code := some k18c3 }
def k18c4 : Code := { maxStack := 6, maxLocals := 5, code := jdk_65_method_133_code, exceptionTable := #[], attributes := #[] }
def k18m4 : Method := { name := "copyOfRangeByte", desc := "([BII)[B", sig := { parameters := [(.array .byte), .int, .int], returnType := some (.array .byte) }, accessFlags := 10, code := some k18c4 }
/-- java/util/Arrays -/
def k18 : Class := { plain "java/util/Arrays" (some 0) with
  accessFlags := 49
  interfaces := #[]
  cf := some (fileOf pool18 14 #[.nestMembers #[975, 375, 113, 74]] #[{ accessFlags := 2, nameIndex := 5, descriptorIndex := 6, attributes := #[] }, { accessFlags := 9, nameIndex := 302, descriptorIndex := 869, attributes := #[] }, { accessFlags := 10, nameIndex := 345, descriptorIndex := 346, attributes := #[] }, { accessFlags := 9, nameIndex := 139, descriptorIndex := 342, attributes := #[] }, { accessFlags := 10, nameIndex := 341, descriptorIndex := 342, attributes := #[] }] 49 2 #[] #[{ accessFlags := 26, nameIndex := 715, descriptorIndex := 716, attributes := #[] }, { accessFlags := 26, nameIndex := 719, descriptorIndex := 716, attributes := #[] }, { accessFlags := 4120, nameIndex := 445, descriptorIndex := 117, attributes := #[] }])
  fields := #[{ name := "MIN_ARRAY_SORT_GRAN", type := .int, accessFlags := 26, slot := 0, constantValue := 0 }, { name := "INSERTIONSORT_THRESHOLD", type := .int, accessFlags := 26, slot := 1, constantValue := 0 }, { name := "$assertionsDisabled", type := .boolean, accessFlags := 4120, slot := 2, constantValue := 0 }]
  methods := #[k18m0, k18m1, k18m2, k18m3, k18m4]
  instanceTypes := #[]
  staticTypes := #[.int, .int, .boolean]
  resolved := Array.replicate 1029 none
  statics := none }

def pool19 : Array CpInfo := pool [(2, .class_ 4), (1, u "java/lang/Object"), (0, u "<init>"), (0, u "()V"), (1, .class_ 10), (1, u "java/lang/System"), (0, u "allowSecurityManager"), (0, u "I"), (16, u "cons"), (0, u "Ljava/io/Console;"), (77, .class_ 110), (1, u "java/lang/System$CallersHolder"), (43, u "initialErrStream"), (0, u "Ljava/io/PrintStream;"), (19, u "security"), (0, u "Ljava/lang/SecurityManager;"), (31, .class_ 209), (0, u "java/lang/System$1"), (7, u "props"), (0, u "Ljava/util/Properties;"), (2, u "lineSeparator"), (0, u "Ljava/lang/String;"), (96, .class_ 321), (1, u "java/lang/System$LoggerFinder"), (5, .class_ 328), (0, u "java/lang/System$Logger"), (67, u "err"), (2, u "out"), (91, u "notSupportedJnuEncoding"), (15, u "in"), (17, u "initialIn"), (0, u "Ljava/io/InputStream;"), (35, u "bootLayer"), (0, u "Ljava/lang/ModuleLayer;"), (99, .class_ 664), (0, u "java/lang/System$2"), (9, u "NEVER"), (2, u "MAYBE"), (49, u "arraycopy"), (0, u "(Ljava/lang/Object;ILjava/lang/Object;II)V"), (72, .class_ 802), (0, u "java/lang/System$Logger$Level")] 31

def k19m0 : Method := { name := "<init>", desc := "()V", sig := { parameters := [], returnType := none }, accessFlags := 2, code := none }
def k19m1 : Method := { name := "arraycopy", desc := "(Ljava/lang/Object;ILjava/lang/Object;II)V", sig := { parameters := [(.object "java/lang/Object"), .int, (.object "java/lang/Object"), .int, .int], returnType := none }, accessFlags := 265, code := none }
/-- java/lang/System -/
def k19 : Class := { plain "java/lang/System" (some 0) with
  accessFlags := 49
  interfaces := #[]
  cf := some (fileOf pool19 8 #[.nestMembers #[319, 327, 801, 108, 663, 208]] #[{ accessFlags := 2, nameIndex := 5, descriptorIndex := 6, attributes := #[] }, { accessFlags := 265, nameIndex := 727, descriptorIndex := 728, attributes := #[] }] 49 2 #[] #[{ accessFlags := 25, nameIndex := 507, descriptorIndex := 526, attributes := #[] }, { accessFlags := 25, nameIndex := 399, descriptorIndex := 155, attributes := #[] }, { accessFlags := 25, nameIndex := 396, descriptorIndex := 155, attributes := #[] }, { accessFlags := 10, nameIndex := 525, descriptorIndex := 526, attributes := #[] }, { accessFlags := 26, nameIndex := 674, descriptorIndex := 12, attributes := #[] }, { accessFlags := 26, nameIndex := 677, descriptorIndex := 12, attributes := #[] }, { accessFlags := 10, nameIndex := 11, descriptorIndex := 12, attributes := #[] }, { accessFlags := 74, nameIndex := 175, descriptorIndex := 176, attributes := #[] }, { accessFlags := 10, nameIndex := 491, descriptorIndex := 222, attributes := #[] }, { accessFlags := 74, nameIndex := 29, descriptorIndex := 30, attributes := #[] }, { accessFlags := 74, nameIndex := 154, descriptorIndex := 155, attributes := #[] }, { accessFlags := 10, nameIndex := 217, descriptorIndex := 218, attributes := #[] }, { accessFlags := 10, nameIndex := 221, descriptorIndex := 222, attributes := #[] }, { accessFlags := 8, nameIndex := 562, descriptorIndex := 563, attributes := #[] }])
  fields := #[{ name := "in", type := (.object "java/io/InputStream"), accessFlags := 25, slot := 0, constantValue := 0 }, { name := "out", type := (.object "java/io/PrintStream"), accessFlags := 25, slot := 1, constantValue := 0 }, { name := "err", type := (.object "java/io/PrintStream"), accessFlags := 25, slot := 2, constantValue := 0 }, { name := "initialIn", type := (.object "java/io/InputStream"), accessFlags := 10, slot := 3, constantValue := 0 }, { name := "NEVER", type := .int, accessFlags := 26, slot := 4, constantValue := 0 }, { name := "MAYBE", type := .int, accessFlags := 26, slot := 5, constantValue := 0 }, { name := "allowSecurityManager", type := .int, accessFlags := 10, slot := 6, constantValue := 0 }, { name := "security", type := (.object "java/lang/SecurityManager"), accessFlags := 74, slot := 7, constantValue := 0 }, { name := "notSupportedJnuEncoding", type := (.object "java/lang/String"), accessFlags := 10, slot := 8, constantValue := 0 }, { name := "cons", type := (.object "java/io/Console"), accessFlags := 74, slot := 9, constantValue := 0 }, { name := "initialErrStream", type := (.object "java/io/PrintStream"), accessFlags := 74, slot := 10, constantValue := 0 }, { name := "props", type := (.object "java/util/Properties"), accessFlags := 10, slot := 11, constantValue := 0 }, { name := "lineSeparator", type := (.object "java/lang/String"), accessFlags := 10, slot := 12, constantValue := 0 }, { name := "bootLayer", type := (.object "java/lang/ModuleLayer"), accessFlags := 8, slot := 13, constantValue := 0 }]
  methods := #[k19m0, k19m1]
  instanceTypes := #[]
  staticTypes := #[(.object "java/io/InputStream"), (.object "java/io/PrintStream"), (.object "java/io/PrintStream"), (.object "java/io/InputStream"), .int, .int, .int, (.object "java/lang/SecurityManager"), (.object "java/lang/String"), (.object "java/io/Console"), (.object "java/io/PrintStream"), (.object "java/util/Properties"), (.object "java/lang/String"), (.object "java/lang/ModuleLayer")]
  resolved := Array.replicate 834 none
  statics := none }

def pool20 : Array CpInfo := pool [(2, .class_ 4), (1, u "java/lang/Object"), (0, u "<init>"), (0, u "()V"), (1, .class_ 10), (1, u "java/lang/Number"), (2, .class_ 14), (0, u "java/io/Serializable"), (0, u "serialVersionUID"), (0, u "J")] 20

def k20m0 : Method := { name := "<init>", desc := "()V", sig := { parameters := [], returnType := none }, accessFlags := 1, code := none }
/-- java/lang/Number -/
def k20 : Class := { plain "java/lang/Number" (some 0) with
  accessFlags := 1057
  interfaces := #[2]
  cf := some (fileOf pool20 8 #[] #[{ accessFlags := 1, nameIndex := 5, descriptorIndex := 6, attributes := #[] }] 1057 2 #[13] #[{ accessFlags := 26, nameIndex := 15, descriptorIndex := 16, attributes := #[] }])
  fields := #[{ name := "serialVersionUID", type := .long, accessFlags := 26, slot := 0, constantValue := 0 }]
  methods := #[k20m0]
  instanceTypes := #[]
  staticTypes := #[.long]
  resolved := Array.replicate 37 none
  statics := none }

def pool21 : Array CpInfo := pool [(1, .class_ 2), (0, u "java/lang/Integer"), (16, u "digits"), (0, u "[C"), (33, u "(I)I"), (19, u "stringSize"), (2, u "getChars"), (0, u "(II[B)I"), (4, .fieldref 1 84), (0, .nameAndType 85 86), (0, u "DigitOnes"), (0, u "[B"), (0, .fieldref 1 88), (0, .nameAndType 89 86), (0, u "DigitTens"), (99, .class_ 190), (0, u "java/lang/Integer$IntegerCache"), (3, u "I"), (8, .class_ 204), (0, u "java/lang/Number"), (2, u "value"), (94, u "TYPE"), (0, u "Ljava/lang/Class;"), (0, .class_ 305), (0, u "java/lang/Comparable"), (0, .class_ 307), (0, u "java/lang/constant/Constable"), (0, .class_ 309), (0, u "java/lang/constant/ConstantDesc"), (0, u "MIN_VALUE"), (1, u "MAX_VALUE"), (3, u "SIZE"), (1, u "BYTES"), (1, u "serialVersionUID"), (0, u "J")] 131

def k21c0 : Code := { maxStack := 4, maxLocals := 7, code := jdk_33_method_12_code, exceptionTable := #[], attributes := #[] }
def k21m0 : Method := { name := "getChars", desc := "(II[B)I", sig := { parameters := [.int, .int, (.array .byte)], returnType := some .int }, accessFlags := 8, code := some k21c0 }
def k21c1 : Code := { maxStack := 2, maxLocals := 4, code := jdk_33_method_13_code, exceptionTable := #[], attributes := #[] }
def k21m1 : Method := { name := "stringSize", desc := "(I)I", sig := { parameters := [.int], returnType := some .int }, accessFlags := 8, code := some k21c1 }
/-- java/lang/Integer -/
def k21 : Class := { plain "java/lang/Integer" (some 20) with
  accessFlags := 49
  interfaces := #[3, 5, 6]
  cf := some (fileOf pool21 1 #[.nestMembers #[189]] #[{ accessFlags := 8, nameIndex := 77, descriptorIndex := 78, attributes := #[] }, { accessFlags := 8, nameIndex := 74, descriptorIndex := 54, attributes := #[] }] 49 203 #[304, 306, 308] #[{ accessFlags := 25, nameIndex := 310, descriptorIndex := 194, attributes := #[] }, { accessFlags := 25, nameIndex := 312, descriptorIndex := 194, attributes := #[] }, { accessFlags := 25, nameIndex := 302, descriptorIndex := 303, attributes := #[] }, { accessFlags := 24, nameIndex := 19, descriptorIndex := 20, attributes := #[] }, { accessFlags := 24, nameIndex := 89, descriptorIndex := 86, attributes := #[] }, { accessFlags := 24, nameIndex := 85, descriptorIndex := 86, attributes := #[] }, { accessFlags := 18, nameIndex := 207, descriptorIndex := 194, attributes := #[] }, { accessFlags := 25, nameIndex := 316, descriptorIndex := 194, attributes := #[] }, { accessFlags := 25, nameIndex := 318, descriptorIndex := 194, attributes := #[] }, { accessFlags := 26, nameIndex := 320, descriptorIndex := 321, attributes := #[] }])
  fields := #[{ name := "MIN_VALUE", type := .int, accessFlags := 25, slot := 0, constantValue := 0 }, { name := "MAX_VALUE", type := .int, accessFlags := 25, slot := 1, constantValue := 0 }, { name := "TYPE", type := (.object "java/lang/Class"), accessFlags := 25, slot := 2, constantValue := 0 }, { name := "digits", type := (.array .char), accessFlags := 24, slot := 3, constantValue := 0 }, { name := "DigitTens", type := (.array .byte), accessFlags := 24, slot := 4, constantValue := 0 }, { name := "DigitOnes", type := (.array .byte), accessFlags := 24, slot := 5, constantValue := 0 }, { name := "value", type := .int, accessFlags := 18, slot := 0, constantValue := 0 }, { name := "SIZE", type := .int, accessFlags := 25, slot := 6, constantValue := 0 }, { name := "BYTES", type := .int, accessFlags := 25, slot := 7, constantValue := 0 }, { name := "serialVersionUID", type := .long, accessFlags := 26, slot := 8, constantValue := 0 }]
  methods := #[k21m0, k21m1]
  instanceTypes := #[.int]
  staticTypes := #[.int, .int, (.object "java/lang/Class"), (.array .char), (.array .byte), (.array .byte), .int, .int, .long]
  resolved := Array.replicate 453 none
  statics := some 2 }

def pool22 : Array CpInfo := pool [(1, .class_ 2), (0, u "java/lang/Cloneable"), (0, .class_ 4), (0, u "java/lang/Object")] 2

/-- java/lang/Cloneable -/
def k22 : Class := { plain "java/lang/Cloneable" (some 0) with
  accessFlags := 1537
  interfaces := #[]
  cf := some (fileOf pool22 1 #[] #[] 1537 3 #[] #[])
  fields := #[]
  methods := #[]
  instanceTypes := #[]
  staticTypes := #[]
  resolved := Array.replicate 7 none
  statics := none }

def pool23 : Array CpInfo := pool [(4, .class_ 6), (1, u "java/lang/Object"), (0, u "<init>"), (0, u "()V"), (5, .class_ 16), (1, u "java/lang/StringLatin1"), (104, u "$assertionsDisabled"), (0, u "Z"), (98, .class_ 223), (1, u "java/lang/StringLatin1$LinesSpliterator"), (166, .class_ 391), (0, u "java/lang/StringLatin1$CharsSpliterator")] 3

def k23m0 : Method := { name := "<init>", desc := "()V", sig := { parameters := [], returnType := none }, accessFlags := 0, code := none }
/-- java/lang/StringLatin1 -/
def k23 : Class := { plain "java/lang/StringLatin1" (some 0) with
  accessFlags := 48
  interfaces := #[]
  cf := some (fileOf pool23 14 #[.nestMembers #[390, 221]] #[{ accessFlags := 0, nameIndex := 7, descriptorIndex := 8, attributes := #[] }] 48 4 #[] #[{ accessFlags := 4120, nameIndex := 121, descriptorIndex := 122, attributes := #[] }])
  fields := #[{ name := "$assertionsDisabled", type := .boolean, accessFlags := 4120, slot := 0, constantValue := 0 }]
  methods := #[k23m0]
  instanceTypes := #[]
  staticTypes := #[.boolean]
  resolved := Array.replicate 395 none
  statics := none }

def pool24 : Array CpInfo := pool [(2, .class_ 4), (1, u "java/lang/Object"), (0, u "<init>"), (0, u "()V"), (17, .class_ 26), (1, u "jdk/internal/util/Preconditions"), (28, .class_ 56), (0, u "jdk/internal/util/Preconditions$4"), (57, .class_ 115), (0, u "jdk/internal/util/Preconditions$1"), (7, u "SIOOBE_FORMATTER"), (0, u "Ljava/util/function/BiFunction;"), (0, .class_ 126), (0, u "jdk/internal/util/Preconditions$2"), (3, u "AIOOBE_FORMATTER"), (0, .class_ 132), (0, u "jdk/internal/util/Preconditions$3"), (3, u "IOOBE_FORMATTER")] 57

def k24m0 : Method := { name := "<init>", desc := "()V", sig := { parameters := [], returnType := none }, accessFlags := 1, code := none }
/-- jdk/internal/util/Preconditions -/
def k24 : Class := { plain "jdk/internal/util/Preconditions" (some 0) with
  accessFlags := 33
  interfaces := #[]
  cf := some (fileOf pool24 24 #[.nestMembers #[55, 131, 125, 114]] #[{ accessFlags := 1, nameIndex := 5, descriptorIndex := 6, attributes := #[] }] 33 2 #[] #[{ accessFlags := 25, nameIndex := 123, descriptorIndex := 124, attributes := #[] }, { accessFlags := 25, nameIndex := 130, descriptorIndex := 124, attributes := #[] }, { accessFlags := 25, nameIndex := 136, descriptorIndex := 124, attributes := #[] }])
  fields := #[{ name := "SIOOBE_FORMATTER", type := (.object "java/util/function/BiFunction"), accessFlags := 25, slot := 0, constantValue := 0 }, { name := "AIOOBE_FORMATTER", type := (.object "java/util/function/BiFunction"), accessFlags := 25, slot := 1, constantValue := 0 }, { name := "IOOBE_FORMATTER", type := (.object "java/util/function/BiFunction"), accessFlags := 25, slot := 2, constantValue := 0 }]
  methods := #[k24m0]
  instanceTypes := #[]
  staticTypes := #[(.object "java/util/function/BiFunction"), (.object "java/util/function/BiFunction"), (.object "java/util/function/BiFunction")]
  resolved := Array.replicate 194 none
  statics := some 3 }

def pool25 : Array CpInfo := pool [(2, .class_ 4), (1, u "java/lang/Object"), (0, u "<init>"), (0, u "()V"), (12, .class_ 20), (0, u "java/util/Collections"), (63, u "r"), (0, u "Ljava/util/Random;"), (80, .class_ 167), (0, u "java/util/Collections$UnmodifiableCollection"), (6, .class_ 175), (0, u "java/util/Collections$UnmodifiableSequencedCollection"), (6, .class_ 183), (0, u "java/util/Collections$UnmodifiableSet"), (6, .class_ 191), (0, u "java/util/Collections$UnmodifiableSequencedSet"), (6, .class_ 199), (0, u "java/util/Collections$UnmodifiableSortedSet"), (6, .class_ 207), (0, u "java/util/Collections$UnmodifiableNavigableSet"), (4, .class_ 213), (0, u "java/util/Collections$UnmodifiableList"), (1, .class_ 216), (0, u "java/util/Collections$UnmodifiableRandomAccessList"), (6, .class_ 224), (0, u "java/util/Collections$UnmodifiableMap"), (6, .class_ 232), (0, u "java/util/Collections$UnmodifiableSequencedMap"), (4, .class_ 238), (0, u "java/util/Collections$UnmodifiableSortedMap"), (6, .class_ 246), (0, u "java/util/Collections$UnmodifiableNavigableMap"), (3, .class_ 251), (0, u "java/util/Collections$SynchronizedCollection"), (4, .class_ 257), (0, u "java/util/Collections$SynchronizedSet"), (4, .class_ 263), (0, u "java/util/Collections$SynchronizedSortedSet"), (1, .class_ 266), (0, u "java/util/Collections$SynchronizedNavigableSet"), (1, .class_ 269), (0, u "java/util/Collections$SynchronizedRandomAccessList"), (1, .class_ 272), (0, u "java/util/Collections$SynchronizedList"), (5, .class_ 279), (0, u "java/util/Collections$SynchronizedMap"), (1, .class_ 282), (0, u "java/util/Collections$SynchronizedSortedMap"), (1, .class_ 285), (0, u "java/util/Collections$SynchronizedNavigableMap"), (1, .class_ 288), (0, u "java/util/Collections$CheckedCollection"), (11, .class_ 301), (0, u "java/util/Collections$CheckedQueue"), (3, .class_ 306), (0, u "java/util/Collections$CheckedSet"), (3, .class_ 311), (0, u "java/util/Collections$CheckedSortedSet"), (3, .class_ 316), (0, u "java/util/Collections$CheckedNavigableSet"), (3, .class_ 321), (0, u "java/util/Collections$CheckedRandomAccessList"), (3, .class_ 326), (0, u "java/util/Collections$CheckedList"), (1, .class_ 329), (0, u "java/util/Collections$CheckedMap"), (3, .class_ 334), (0, u "java/util/Collections$CheckedSortedMap"), (3, .class_ 339), (0, u "java/util/Collections$CheckedNavigableMap"), (4, .class_ 346), (1, u "java/util/Collections$EmptyIterator"), (3, .class_ 352), (1, u "java/util/Collections$EmptyListIterator"), (2, .class_ 357), (1, u "java/util/Collections$EmptyEnumeration"), (4, u "EMPTY_SET"), (0, u "Ljava/util/Set;"), (6, u "EMPTY_LIST"), (0, u "Ljava/util/List;"), (2, u "EMPTY_MAP"), (0, u "Ljava/util/Map;"), (4, .class_ 381), (0, u "java/util/Collections$SingletonSet"), (2, .class_ 385), (0, u "java/util/Collections$1"), (1, .class_ 388), (0, u "java/util/Collections$2"), (1, .class_ 391), (0, u "java/util/Collections$SingletonList"), (1, .class_ 394), (0, u "java/util/Collections$SingletonMap"), (22, .class_ 418), (0, u "java/util/Collections$CopiesList"), (4, .class_ 425), (1, u "java/util/Collections$ReverseComparator"), (8, .class_ 435), (0, u "java/util/Collections$ReverseComparator2"), (6, .class_ 443), (0, u "java/util/Collections$3"), (25, .class_ 470), (0, u "java/util/Collections$SetFromMap"), (2, .class_ 474), (0, u "java/util/Collections$SequencedSetFromMap"), (3, .class_ 479), (0, u "java/util/Collections$AsLIFOQueue"), (11, .class_ 492), (0, u "java/util/Collections$EmptySet"), (1, .class_ 495), (0, u "java/util/Collections$EmptyList"), (1, .class_ 498), (0, u "java/util/Collections$EmptyMap"), (1, u "BINARYSEARCH_THRESHOLD"), (0, u "I"), (2, u "REVERSE_THRESHOLD"), (1, u "SHUFFLE_THRESHOLD"), (1, u "FILL_THRESHOLD"), (1, u "ROTATE_THRESHOLD"), (1, u "COPY_THRESHOLD"), (1, u "REPLACEALL_THRESHOLD"), (1, u "INDEXOFSUBLIST_THRESHOLD"), (333, .class_ 851), (0, u "java/util/Collections$CheckedMap$CheckedEntrySet"), (0, .class_ 853), (0, u "java/util/Collections$CheckedMap$CheckedEntrySet$CheckedEntry"), (0, .class_ 855), (0, u "java/util/Collections$CheckedMap$CheckedEntrySet$1"), (0, .class_ 857), (0, u "java/util/Collections$CheckedList$1"), (0, .class_ 859), (0, u "java/util/Collections$CheckedCollection$1"), (0, .class_ 861), (0, u "java/util/Collections$UnmodifiableNavigableMap$EmptyNavigableMap"), (0, .class_ 863), (0, u "java/util/Collections$UnmodifiableMap$UnmodifiableEntrySet"), (0, .class_ 865), (0, u "java/util/Collections$UnmodifiableMap$UnmodifiableEntrySet$UnmodifiableEntry"), (0, .class_ 867), (0, u "java/util/Collections$UnmodifiableMap$UnmodifiableEntrySet$UnmodifiableEntrySetSpliterator"), (0, .class_ 869), (0, u "java/util/Collections$UnmodifiableMap$UnmodifiableEntrySet$1"), (0, .class_ 871), (0, u "java/util/Collections$UnmodifiableList$1"), (0, .class_ 873), (0, u "java/util/Collections$UnmodifiableNavigableSet$EmptyNavigableSet"), (0, .class_ 875), (0, u "java/util/Collections$UnmodifiableCollection$1")] 57

def k25m0 : Method := { name := "<init>", desc := "()V", sig := { parameters := [], returnType := none }, accessFlags := 2, code := none }
/-- java/util/Collections -/
def k25 : Class := { plain "java/util/Collections" (some 0) with
  accessFlags := 33
  interfaces := #[]
  cf := some (fileOf pool25 19 #[.nestMembers #[478, 473, 469, 434, 423, 417, 393, 390, 380, 497, 494, 491, 355, 350, 344, 338, 333, 328, 850, 852, 854, 320, 325, 856, 315, 310, 305, 300, 287, 858, 284, 281, 278, 268, 271, 265, 262, 256, 250, 245, 860, 237, 231, 223, 862, 864, 866, 868, 215, 212, 870, 206, 872, 198, 190, 182, 174, 166, 874, 442, 387, 384]] #[{ accessFlags := 2, nameIndex := 5, descriptorIndex := 6, attributes := #[] }] 33 2 #[] #[{ accessFlags := 26, nameIndex := 500, descriptorIndex := 501, attributes := #[] }, { accessFlags := 26, nameIndex := 504, descriptorIndex := 501, attributes := #[] }, { accessFlags := 26, nameIndex := 506, descriptorIndex := 501, attributes := #[] }, { accessFlags := 26, nameIndex := 508, descriptorIndex := 501, attributes := #[] }, { accessFlags := 26, nameIndex := 510, descriptorIndex := 501, attributes := #[] }, { accessFlags := 26, nameIndex := 512, descriptorIndex := 501, attributes := #[] }, { accessFlags := 26, nameIndex := 514, descriptorIndex := 501, attributes := #[] }, { accessFlags := 26, nameIndex := 516, descriptorIndex := 501, attributes := #[] }, { accessFlags := 10, nameIndex := 84, descriptorIndex := 85, attributes := #[] }, { accessFlags := 25, nameIndex := 362, descriptorIndex := 363, attributes := #[] }, { accessFlags := 25, nameIndex := 370, descriptorIndex := 371, attributes := #[] }, { accessFlags := 25, nameIndex := 374, descriptorIndex := 375, attributes := #[] }])
  fields := #[{ name := "BINARYSEARCH_THRESHOLD", type := .int, accessFlags := 26, slot := 0, constantValue := 0 }, { name := "REVERSE_THRESHOLD", type := .int, accessFlags := 26, slot := 1, constantValue := 0 }, { name := "SHUFFLE_THRESHOLD", type := .int, accessFlags := 26, slot := 2, constantValue := 0 }, { name := "FILL_THRESHOLD", type := .int, accessFlags := 26, slot := 3, constantValue := 0 }, { name := "ROTATE_THRESHOLD", type := .int, accessFlags := 26, slot := 4, constantValue := 0 }, { name := "COPY_THRESHOLD", type := .int, accessFlags := 26, slot := 5, constantValue := 0 }, { name := "REPLACEALL_THRESHOLD", type := .int, accessFlags := 26, slot := 6, constantValue := 0 }, { name := "INDEXOFSUBLIST_THRESHOLD", type := .int, accessFlags := 26, slot := 7, constantValue := 0 }, { name := "r", type := (.object "java/util/Random"), accessFlags := 10, slot := 8, constantValue := 0 }, { name := "EMPTY_SET", type := (.object "java/util/Set"), accessFlags := 25, slot := 9, constantValue := 0 }, { name := "EMPTY_LIST", type := (.object "java/util/List"), accessFlags := 25, slot := 10, constantValue := 0 }, { name := "EMPTY_MAP", type := (.object "java/util/Map"), accessFlags := 25, slot := 11, constantValue := 0 }]
  methods := #[k25m0]
  instanceTypes := #[]
  staticTypes := #[.int, .int, .int, .int, .int, .int, .int, .int, (.object "java/util/Random"), (.object "java/util/Set"), (.object "java/util/List"), (.object "java/util/Map")]
  resolved := Array.replicate 933 none
  statics := some 4 }

def pool26 : Array CpInfo := pool [(8, .class_ 10), (1, u "java/lang/Iterable"), (24, .class_ 36), (0, u "java/lang/Object")] 25

/-- java/lang/Iterable -/
def k26 : Class := { plain "java/lang/Iterable" (some 0) with
  accessFlags := 1537
  interfaces := #[]
  cf := some (fileOf pool26 8 #[] #[] 1537 35 #[] #[])
  fields := #[]
  methods := #[]
  instanceTypes := #[]
  staticTypes := #[]
  resolved := Array.replicate 62 none
  statics := none }

def pool27 : Array CpInfo := pool [(10, .class_ 12), (1, u "java/util/Collection"), (47, .class_ 61), (0, u "java/lang/Object"), (0, .class_ 63), (0, u "java/lang/Iterable")] 51

/-- java/util/Collection -/
def k27 : Class := { plain "java/util/Collection" (some 0) with
  accessFlags := 1537
  interfaces := #[26]
  cf := some (fileOf pool27 10 #[] #[] 1537 60 #[62] #[])
  fields := #[]
  methods := #[]
  instanceTypes := #[]
  staticTypes := #[]
  resolved := Array.replicate 115 none
  statics := none }

def pool28 : Array CpInfo := pool [(2, .class_ 4), (1, u "java/lang/Object"), (0, u "<init>"), (0, u "()V"), (1, .class_ 10), (1, u "java/util/AbstractCollection"), (66, .class_ 78), (0, u "java/util/Collection")] 81

def k28m0 : Method := { name := "<init>", desc := "()V", sig := { parameters := [], returnType := none }, accessFlags := 4, code := none }
/-- java/util/AbstractCollection -/
def k28 : Class := { plain "java/util/AbstractCollection" (some 0) with
  accessFlags := 1057
  interfaces := #[27]
  cf := some (fileOf pool28 8 #[] #[{ accessFlags := 4, nameIndex := 5, descriptorIndex := 6, attributes := #[] }] 1057 2 #[77] #[])
  fields := #[]
  methods := #[k28m0]
  instanceTypes := #[]
  staticTypes := #[]
  resolved := Array.replicate 160 none
  statics := none }

def pool29 : Array CpInfo := pool [(8, .class_ 10), (1, u "java/util/SequencedCollection"), (15, .class_ 27), (0, u "java/lang/Object"), (0, .class_ 29), (0, u "java/util/Collection")] 27

/-- java/util/SequencedCollection -/
def k29 : Class := { plain "java/util/SequencedCollection" (some 0) with
  accessFlags := 1537
  interfaces := #[27]
  cf := some (fileOf pool29 8 #[] #[] 1537 26 #[28] #[])
  fields := #[]
  methods := #[]
  instanceTypes := #[]
  staticTypes := #[]
  resolved := Array.replicate 57 none
  statics := none }

def pool30 : Array CpInfo := pool [(8, .class_ 10), (1, u "java/util/List"), (92, .class_ 104), (0, u "java/lang/Object"), (15, .class_ 121), (0, u "java/util/SequencedCollection")] 129

/-- java/util/List -/
def k30 : Class := { plain "java/util/List" (some 0) with
  accessFlags := 1537
  interfaces := #[29]
  cf := some (fileOf pool30 8 #[] #[] 1537 103 #[120] #[])
  fields := #[]
  methods := #[]
  instanceTypes := #[]
  staticTypes := #[]
  resolved := Array.replicate 251 none
  statics := none }

def pool31 : Array CpInfo := pool [(2, .class_ 4), (1, u "java/util/AbstractCollection"), (0, u "<init>"), (0, u "()V"), (1, .class_ 10), (1, u "java/util/AbstractList"), (0, u "modCount"), (0, u "I"), (64, .class_ 78), (0, u "java/util/AbstractList$Itr"), (3, .class_ 83), (0, u "java/util/AbstractList$ListItr"), (9, .class_ 94), (0, u "java/util/AbstractList$RandomAccessSubList"), (3, .class_ 99), (0, u "java/util/AbstractList$SubList"), (33, .class_ 134), (0, u "java/util/List"), (73, .class_ 209), (0, u "java/util/AbstractList$SubList$1"), (0, .class_ 211), (0, u "java/util/AbstractList$RandomAccessSpliterator")] 6

def k31m0 : Method := { name := "<init>", desc := "()V", sig := { parameters := [], returnType := none }, accessFlags := 4, code := none }
/-- java/util/AbstractList -/
def k31 : Class := { plain "java/util/AbstractList" (some 28) with
  accessFlags := 1057
  interfaces := #[30]
  cf := some (fileOf pool31 8 #[.nestMembers #[93, 98, 208, 210, 82, 77]] #[{ accessFlags := 4, nameIndex := 5, descriptorIndex := 6, attributes := #[] }] 1057 2 #[133] #[{ accessFlags := 132, nameIndex := 11, descriptorIndex := 12, attributes := #[] }])
  fields := #[{ name := "modCount", type := .int, accessFlags := 132, slot := 0, constantValue := 0 }]
  methods := #[k31m0]
  instanceTypes := #[.int]
  staticTypes := #[]
  resolved := Array.replicate 218 none
  statics := none }

def pool32 : Array CpInfo := pool [(1, .class_ 2), (0, u "java/util/RandomAccess"), (0, .class_ 4), (0, u "java/lang/Object")] 2

/-- java/util/RandomAccess -/
def k32 : Class := { plain "java/util/RandomAccess" (some 0) with
  accessFlags := 1537
  interfaces := #[]
  cf := some (fileOf pool32 1 #[] #[] 1537 3 #[] #[])
  fields := #[]
  methods := #[]
  instanceTypes := #[]
  staticTypes := #[]
  resolved := Array.replicate 7 none
  statics := none }

def pool33 : Array CpInfo := pool [(2, .class_ 4), (1, u "java/util/AbstractList"), (0, u "<init>"), (0, u "()V"), (1, .class_ 10), (1, u "java/util/Collections"), (54, .class_ 66), (0, u "java/util/Collections$EmptyList"), (0, .class_ 68), (0, u "java/util/RandomAccess"), (0, .class_ 70), (0, u "java/io/Serializable"), (0, u "serialVersionUID"), (0, u "J")] 77

def k33m0 : Method := { name := "<init>", desc := "()V", sig := { parameters := [], returnType := none }, accessFlags := 2, code := none }
/-- java/util/Collections$EmptyList -/
def k33 : Class := { plain "java/util/Collections$EmptyList" (some 31) with
  accessFlags := 32
  interfaces := #[32, 2]
  cf := some (fileOf pool33 65 #[.nestHost 8] #[{ accessFlags := 2, nameIndex := 5, descriptorIndex := 6, attributes := #[] }] 32 2 #[67, 69] #[{ accessFlags := 26, nameIndex := 71, descriptorIndex := 72, attributes := #[] }])
  fields := #[{ name := "serialVersionUID", type := .long, accessFlags := 26, slot := 0, constantValue := 0 }]
  methods := #[k33m0]
  instanceTypes := #[.int]
  staticTypes := #[.long]
  resolved := Array.replicate 150 none
  statics := none }

def pool34 : Array CpInfo := pool [(2, .class_ 4), (1, u "java/lang/StackTraceElement"), (0, u "<init>"), (2, .class_ 10), (1, u "java/lang/Object"), (0, u "()V"), (2, u "format"), (0, u "B"), (2, u "classLoaderName"), (0, u "Ljava/lang/String;"), (2, u "moduleName"), (2, u "moduleVersion"), (12, u "declaringClass"), (4, u "methodName"), (2, u "fileName"), (2, u "lineNumber"), (0, u "I"), (65, u "declaringClassObject"), (0, u "Ljava/lang/Class;"), (33, .class_ 153), (1, u "java/lang/StackTraceElement$HashedModules"), (17, .class_ 172), (0, u "java/io/Serializable"), (0, u "NATIVE_METHOD"), (1, u "UNKNOWN_SOURCE"), (2, u "BUILTIN_CLASS_LOADER"), (1, u "JDK_NON_UPGRADEABLE_MODULE"), (1, u "serialVersionUID"), (0, u "J")] 51

def k34m0 : Method := { name := "<init>", desc := "()V", sig := { parameters := [], returnType := none }, accessFlags := 2, code := none }
/-- java/lang/StackTraceElement -/
def k34 : Class := { plain "java/lang/StackTraceElement" (some 0) with
  accessFlags := 49
  interfaces := #[2]
  cf := some (fileOf pool34 2 #[.nestMembers #[151]] #[{ accessFlags := 2, nameIndex := 5, descriptorIndex := 11, attributes := #[] }] 49 8 #[171] #[{ accessFlags := 26, nameIndex := 173, descriptorIndex := 19, attributes := #[] }, { accessFlags := 26, nameIndex := 175, descriptorIndex := 19, attributes := #[] }, { accessFlags := 130, nameIndex := 116, descriptorIndex := 117, attributes := #[] }, { accessFlags := 2, nameIndex := 18, descriptorIndex := 19, attributes := #[] }, { accessFlags := 2, nameIndex := 22, descriptorIndex := 19, attributes := #[] }, { accessFlags := 2, nameIndex := 25, descriptorIndex := 19, attributes := #[] }, { accessFlags := 2, nameIndex := 38, descriptorIndex := 19, attributes := #[] }, { accessFlags := 2, nameIndex := 43, descriptorIndex := 19, attributes := #[] }, { accessFlags := 2, nameIndex := 46, descriptorIndex := 19, attributes := #[] }, { accessFlags := 2, nameIndex := 49, descriptorIndex := 50, attributes := #[] }, { accessFlags := 2, nameIndex := 14, descriptorIndex := 15, attributes := #[] }, { accessFlags := 26, nameIndex := 178, descriptorIndex := 15, attributes := #[] }, { accessFlags := 26, nameIndex := 180, descriptorIndex := 15, attributes := #[] }, { accessFlags := 26, nameIndex := 182, descriptorIndex := 183, attributes := #[] }])
  fields := #[{ name := "NATIVE_METHOD", type := (.object "java/lang/String"), accessFlags := 26, slot := 0, constantValue := 0 }, { name := "UNKNOWN_SOURCE", type := (.object "java/lang/String"), accessFlags := 26, slot := 1, constantValue := 0 }, { name := "declaringClassObject", type := (.object "java/lang/Class"), accessFlags := 130, slot := 0, constantValue := 0 }, { name := "classLoaderName", type := (.object "java/lang/String"), accessFlags := 2, slot := 1, constantValue := 0 }, { name := "moduleName", type := (.object "java/lang/String"), accessFlags := 2, slot := 2, constantValue := 0 }, { name := "moduleVersion", type := (.object "java/lang/String"), accessFlags := 2, slot := 3, constantValue := 0 }, { name := "declaringClass", type := (.object "java/lang/String"), accessFlags := 2, slot := 4, constantValue := 0 }, { name := "methodName", type := (.object "java/lang/String"), accessFlags := 2, slot := 5, constantValue := 0 }, { name := "fileName", type := (.object "java/lang/String"), accessFlags := 2, slot := 6, constantValue := 0 }, { name := "lineNumber", type := .int, accessFlags := 2, slot := 7, constantValue := 0 }, { name := "format", type := .byte, accessFlags := 2, slot := 8, constantValue := 0 }, { name := "BUILTIN_CLASS_LOADER", type := .byte, accessFlags := 26, slot := 2, constantValue := 0 }, { name := "JDK_NON_UPGRADEABLE_MODULE", type := .byte, accessFlags := 26, slot := 3, constantValue := 0 }, { name := "serialVersionUID", type := .long, accessFlags := 26, slot := 4, constantValue := 0 }]
  methods := #[k34m0]
  instanceTypes := #[(.object "java/lang/Class"), (.object "java/lang/String"), (.object "java/lang/String"), (.object "java/lang/String"), (.object "java/lang/String"), (.object "java/lang/String"), (.object "java/lang/String"), .int, .byte]
  staticTypes := #[(.object "java/lang/String"), (.object "java/lang/String"), .byte, .byte, .long]
  resolved := Array.replicate 235 none
  statics := none }

/-- the primitive byte -/
def k35 : Class := { plain "byte" none with kind := .primitive 'B', accessFlags := 0x411 }
/-- [B -/
def k36 : Class := { plain "[B" (some 0) with kind := .array 35 .byte, interfaces := #[22, 2], accessFlags := 1041 }

/-- the primitive char -/
def k37 : Class := { plain "char" none with kind := .primitive 'C', accessFlags := 0x411 }
/-- [C -/
def k38 : Class := { plain "[C" (some 0) with kind := .array 37 .char, interfaces := #[22, 2], accessFlags := 1041 }

/-- [Ljava/lang/Object; -/
def k39 : Class := { plain "[Ljava/lang/Object;" (some 0) with kind := .array 0 (.object "java/lang/Object"), interfaces := #[22, 2], accessFlags := 1041 }

/-- [Ljava/lang/StackTraceElement; -/
def k40 : Class := { plain "[Ljava/lang/StackTraceElement;" (some 0) with kind := .array 34 (.object "java/lang/StackTraceElement"), interfaces := #[22, 2], accessFlags := 1041 }

/-- [Ljava/lang/Throwable; -/
def k41 : Class := { plain "[Ljava/lang/Throwable;" (some 0) with kind := .array 9 (.object "java/lang/Throwable"), interfaces := #[22, 2], accessFlags := 1041 }

def heap : Heap := #[{ cls := 7, slots := #[.long 0, .int 1, .null, .int 0, .null, .int 0, .int 0], vm := .statics 7 },
  { cls := 9, slots := #[.long 0, .ref 9, .ref 10, .null, .null, .null, .null, .ref 11, .int 1], vm := .statics 9 },
  { cls := 21, slots := #[.int 0, .int 0, .null, .null, .ref 8, .ref 7, .int 0, .int 0, .long 0], vm := .statics 21 },
  { cls := 24, slots := #[.null, .null, .null], vm := .statics 24 },
  { cls := 25, slots := #[.int 0, .int 0, .int 0, .int 0, .int 0, .int 0, .int 0, .int 0, .null, .null, .ref 10, .null], vm := .statics 25 },
  { cls := 7, slots := #[.ref 6, .int 0, .int 0, .int 0], vm := .none },
  { cls := 36, slots := #[.int 99, .int 104, .int 97, .int 110, .int 110, .int 101, .int 108], vm := .none },
  { cls := 36, slots := #[.int 48, .int 49, .int 50, .int 51, .int 52, .int 53, .int 54, .int 55, .int 56, .int 57, .int 48, .int 49, .int 50, .int 51, .int 52, .int 53, .int 54, .int 55, .int 56, .int 57, .int 48, .int 49, .int 50, .int 51, .int 52, .int 53, .int 54, .int 55, .int 56, .int 57, .int 48, .int 49, .int 50, .int 51, .int 52, .int 53, .int 54, .int 55, .int 56, .int 57, .int 48, .int 49, .int 50, .int 51, .int 52, .int 53, .int 54, .int 55, .int 56, .int 57, .int 48, .int 49, .int 50, .int 51, .int 52, .int 53, .int 54, .int 55, .int 56, .int 57, .int 48, .int 49, .int 50, .int 51, .int 52, .int 53, .int 54, .int 55, .int 56, .int 57, .int 48, .int 49, .int 50, .int 51, .int 52, .int 53, .int 54, .int 55, .int 56, .int 57, .int 48, .int 49, .int 50, .int 51, .int 52, .int 53, .int 54, .int 55, .int 56, .int 57, .int 48, .int 49, .int 50, .int 51, .int 52, .int 53, .int 54, .int 55, .int 56, .int 57], vm := .none },
  { cls := 36, slots := #[.int 48, .int 48, .int 48, .int 48, .int 48, .int 48, .int 48, .int 48, .int 48, .int 48, .int 49, .int 49, .int 49, .int 49, .int 49, .int 49, .int 49, .int 49, .int 49, .int 49, .int 50, .int 50, .int 50, .int 50, .int 50, .int 50, .int 50, .int 50, .int 50, .int 50, .int 51, .int 51, .int 51, .int 51, .int 51, .int 51, .int 51, .int 51, .int 51, .int 51, .int 52, .int 52, .int 52, .int 52, .int 52, .int 52, .int 52, .int 52, .int 52, .int 52, .int 53, .int 53, .int 53, .int 53, .int 53, .int 53, .int 53, .int 53, .int 53, .int 53, .int 54, .int 54, .int 54, .int 54, .int 54, .int 54, .int 54, .int 54, .int 54, .int 54, .int 55, .int 55, .int 55, .int 55, .int 55, .int 55, .int 55, .int 55, .int 55, .int 55, .int 56, .int 56, .int 56, .int 56, .int 56, .int 56, .int 56, .int 56, .int 56, .int 56, .int 57, .int 57, .int 57, .int 57, .int 57, .int 57, .int 57, .int 57, .int 57, .int 57], vm := .none },
  { cls := 40, slots := #[], vm := .none },
  { cls := 33, slots := #[.int 0], vm := .none },
  { cls := 41, slots := #[], vm := .none }]
def classes : Array Class := #[k0, k1, k2, k3, k4, k5, k6, k7, k8, k9, k10, k11, k12, k13, k14, k15, k16, k17, k18, k19, k20, k21, k22, k23, k24, k25, k26, k27, k28, k29, k30, k31, k32, k33, k34, k35, k36, k37, k38, k39, k40, k41]
def interned : List (Array UInt16 × Addr) := [(#[99, 104, 97, 110, 110, 101, 108], 5)]
def slotsUsed : Nat := 252
def theMethod : MethodId := ⟨1, 3⟩
def args0 : Array Value := #[.int 1, .int 5, .int 65]
def aboutOver (below : List Frame) : State where
  vm := { classes := classes, interned := interned.toArray }
  heap := heap
  slotsUsed := slotsUsed
  threads := #[{ frames := .invoking theMethod args0 :: below }]
def below0 : List Frame := [.native { method := ⟨0, 0⟩, args := #[] }]
def about1 : State := aboutOver below0
def p0 : Program := .bare "" "" ""
def e0 : Env := launch0.env 0 0 0
theorem w_frames : about1.frames = Frame.invoking theMethod args0 :: below0 := rfl
set_option maxRecDepth 65536 in
theorem w_args : argsFit about1.vm theMethod args0 = true := by decide +kernel
set_option maxRecDepth 65536 in
theorem w_heap : heapFits about1 = true := by decide +kernel
set_option maxRecDepth 65536 in
theorem w_runnable : about1.curStatus? = some .runnable := by decide +kernel
set_option maxRecDepth 65536 in
theorem w_alone : about1.alone = true := by decide +kernel
set_option maxRecDepth 65536 in
theorem w_named : about1.methodNamed? x = some theMethod := by decide +kernel
set_option maxRecDepth 65536 in
theorem w_hears : about1.hears theMethod below0 = true := by decide +kernel
set_option maxRecDepth 65536 in
theorem w_ripe : about1.ripe theMethod args0 below0 = true := by decide +kernel
theorem w_running : about1.status = .running := rfl
set_option maxRecDepth 65536 in
theorem w_room : about1.hasRoom e0.platform room_1 = true :=
  launch0.hasRoom_least _ room_1 (by decide +kernel) (by decide +kernel) (by decide +kernel) (by decide +kernel) (by decide +kernel) (by decide +kernel)
theorem allAtoms_all (ts : List Jvm.Cond) (a : Array Jvm.Value) (st : Jvm.State) : (allAtoms ts).before a st = ts.all (fun c => c.before a st) := by
  induction ts with
  | nil => rfl
  | cons c t ih =>
    show (Jvm.Cond.and c (allAtoms t)).before a st = _
    rw [Jvm.Cond.before_and, ih, List.all_cons]
def words1 : List Jvm.Cond := Jvm.Cond.code x code maxLocals ret :: tables_1
/-- a 'code' word, met by the world's own term for the bytes: nothing is compared byte by byte -/
theorem code_word {y : MethodName} {bytes : ByteArray} {mx : Nat} {rt : Option FieldType} {a : Array Value} {s : State} {m : MethodId} {meth : Method} {c : Code} (h1 : s.methodNamed? y = some m) (h2 : s.vm.method? m = some meth) (h3 : meth.code = some c) (h4 : c.code = bytes)
    (h5 : (c.maxLocals == mx && c.exceptionTable.isEmpty && decide (c.maxStack ≤ mostOperands) && decide (meth.sig.returnType = rt) && !meth.locks && decide (parseMethodDescriptor y.desc = some meth.sig)) = true) : (Jvm.Cond.code y bytes mx rt).before a s = true := by
  simp only [Bool.and_eq_true, beq_iff_eq, Bool.not_eq_true', decide_eq_true_eq] at h5
  obtain ⟨⟨⟨⟨⟨g1, g2⟩, g3⟩, g4⟩, g5⟩, g6⟩ := h5
  simp [Cond.before, Cond.holds, Cond.value, h1, h2, h3, h4, g1, g2, g3, g4, g5, g6]
def isCode : Jvm.Cond → Bool
  | .code _ _ _ _ => true
  | _ => false
theorem all_split {L : List Jvm.Cond} {P : Jvm.Cond → Bool} (h1 : L.all (fun c => isCode c || P c) = true) (h2 : ∀ c ∈ L.filter isCode, P c = true) : L.all P = true := by
  refine List.all_eq_true.mpr fun c hc => ?_
  have h := List.all_eq_true.mp h1 c hc
  rcases Bool.eq_false_or_eq_true (isCode c) with hi | hi
  · exact h2 c (List.mem_filter.mpr ⟨hc, hi⟩)
  · simpa [hi] using h
set_option maxRecDepth 65536 in
theorem w_c0 : (Jvm.Cond.code x code maxLocals ret).before args0 about1 = true := code_word (m := ⟨1, 3⟩) (meth := k1m3) (c := k1c3) (by decide +kernel) rfl rfl rfl (by decide +kernel)
set_option maxRecDepth 65536 in
theorem w_c1 : (Jvm.Cond.code ({ cls := "com/example/dispatchbook/dispatchbook/amqp/BrokerClosedExceptionRefusedMessagePinLaw", name := "pickCode", desc := "(II)I" } : Jvm.MethodName) method_2_code (2 : Nat) (Option.some Jvm.ClassFile.FieldType.int)).before args0 about1 = true := code_word (m := ⟨1, 1⟩) (meth := k1m1) (c := k1c1) (by decide +kernel) rfl rfl rfl (by decide +kernel)
set_option maxRecDepth 65536 in
theorem w_c2 : (Jvm.Cond.code ({ cls := "java/lang/String", name := "<init>", desc := "([C)V" } : Jvm.MethodName) jdk_42_method_3_code (2 : Nat) (Option.none : Option Jvm.ClassFile.FieldType)).before args0 about1 = true := code_word (m := ⟨7, 1⟩) (meth := k7m1) (c := k7c1) (by decide +kernel) rfl rfl rfl (by decide +kernel)
set_option maxRecDepth 65536 in
theorem w_c3 : (Jvm.Cond.code ({ cls := "java/lang/String", name := "<init>", desc := "([CIILjava/lang/Void;)V" } : Jvm.MethodName) jdk_42_method_149_code (6 : Nat) (Option.none : Option Jvm.ClassFile.FieldType)).before args0 about1 = true := code_word (m := ⟨7, 5⟩) (meth := k7m5) (c := k7c5) (by decide +kernel) rfl rfl rfl (by decide +kernel)
set_option maxRecDepth 65536 in
theorem w_c4 : (Jvm.Cond.code ({ cls := "java/lang/Object", name := "<init>", desc := "()V" } : Jvm.MethodName) object_method_1_code (1 : Nat) (Option.none : Option Jvm.ClassFile.FieldType)).before args0 about1 = true := code_word (m := ⟨0, 0⟩) (meth := k0m0) (c := k0c0) (by decide +kernel) rfl rfl rfl (by decide +kernel)
set_option maxRecDepth 65536 in
theorem w_c5 : (Jvm.Cond.code ({ cls := "java/lang/StringUTF16", name := "compress", desc := "([CII)[B" } : Jvm.MethodName) jdk_52_method_16_code (6 : Nat) (Option.some (Jvm.ClassFile.FieldType.array Jvm.ClassFile.FieldType.byte))).before args0 about1 = true := code_word (m := ⟨8, 2⟩) (meth := k8m2) (c := k8c2) (by decide +kernel) rfl rfl rfl (by decide +kernel)
set_option maxRecDepth 65536 in
theorem w_c6 : (Jvm.Cond.code ({ cls := "java/lang/StringUTF16", name := "compress", desc := "([CI[BII)I" } : Jvm.MethodName) jdk_52_method_21_code (7 : Nat) (Option.some Jvm.ClassFile.FieldType.int)).before args0 about1 = true := code_word (m := ⟨8, 3⟩) (meth := k8m3) (c := k8c3) (by decide +kernel) rfl rfl rfl (by decide +kernel)
set_option maxRecDepth 65536 in
theorem w_c7 : (Jvm.Cond.code ({ cls := "java/lang/StringUTF16", name := "coderFromArrayLen", desc := "([BI)B" } : Jvm.MethodName) jdk_52_method_15_code (2 : Nat) (Option.some Jvm.ClassFile.FieldType.byte)).before args0 about1 = true := code_word (m := ⟨8, 1⟩) (meth := k8m1) (c := k8c1) (by decide +kernel) rfl rfl rfl (by decide +kernel)
set_option maxRecDepth 65536 in
theorem w_c8 : (Jvm.Cond.code ({ cls := "com/example/dispatchbook/dispatchbook/amqp/BrokerClosedException", name := "<init>", desc := "(ZILjava/lang/String;)V" } : Jvm.MethodName) prog_8_method_1_code (4 : Nat) (Option.none : Option Jvm.ClassFile.FieldType)).before args0 about1 = true := code_word (m := ⟨12, 0⟩) (meth := k12m0) (c := k12c0) (by decide +kernel) rfl rfl rfl (by decide +kernel)
set_option maxRecDepth 65536 in
theorem w_c9 : (Jvm.Cond.code ({ cls := "java/lang/StringBuilder", name := "<init>", desc := "()V" } : Jvm.MethodName) jdk_67_method_1_code (1 : Nat) (Option.none : Option Jvm.ClassFile.FieldType)).before args0 about1 = true := code_word (m := ⟨15, 0⟩) (meth := k15m0) (c := k15c0) (by decide +kernel) rfl rfl rfl (by decide +kernel)
set_option maxRecDepth 65536 in
theorem w_c10 : (Jvm.Cond.code ({ cls := "java/lang/AbstractStringBuilder", name := "<init>", desc := "(I)V" } : Jvm.MethodName) jdk_68_method_2_code (2 : Nat) (Option.none : Option Jvm.ClassFile.FieldType)).before args0 about1 = true := code_word (m := ⟨14, 1⟩) (meth := k14m1) (c := k14c1) (by decide +kernel) rfl rfl rfl (by decide +kernel)
set_option maxRecDepth 65536 in
theorem w_c11 : (Jvm.Cond.code ({ cls := "java/lang/StringBuilder", name := "append", desc := "(Ljava/lang/String;)Ljava/lang/StringBuilder;" } : Jvm.MethodName) jdk_67_method_7_code (2 : Nat) (Option.some (Jvm.ClassFile.FieldType.object "java/lang/StringBuilder"))).before args0 about1 = true := code_word (m := ⟨15, 1⟩) (meth := k15m1) (c := k15c1) (by decide +kernel) rfl rfl rfl (by decide +kernel)
set_option maxRecDepth 65536 in
theorem w_c12 : (Jvm.Cond.code ({ cls := "java/lang/AbstractStringBuilder", name := "append", desc := "(Ljava/lang/String;)Ljava/lang/AbstractStringBuilder;" } : Jvm.MethodName) jdk_68_method_22_code (3 : Nat) (Option.some (Jvm.ClassFile.FieldType.object "java/lang/AbstractStringBuilder"))).before args0 about1 = true := code_word (m := ⟨14, 5⟩) (meth := k14m5) (c := k14c5) (by decide +kernel) rfl rfl rfl (by decide +kernel)
set_option maxRecDepth 65536 in
theorem w_c13 : (Jvm.Cond.code ({ cls := "java/lang/String", name := "length", desc := "()I" } : Jvm.MethodName) jdk_42_method_54_code (1 : Nat) (Option.some Jvm.ClassFile.FieldType.int)).before args0 about1 = true := code_word (m := ⟨7, 3⟩) (meth := k7m3) (c := k7c3) (by decide +kernel) rfl rfl rfl (by decide +kernel)
set_option maxRecDepth 65536 in
theorem w_c14 : (Jvm.Cond.code ({ cls := "java/lang/String", name := "coder", desc := "()B" } : Jvm.MethodName) jdk_42_method_152_code (1 : Nat) (Option.some Jvm.ClassFile.FieldType.byte)).before args0 about1 = true := code_word (m := ⟨7, 7⟩) (meth := k7m7) (c := k7c7) (by decide +kernel) rfl rfl rfl (by decide +kernel)
set_option maxRecDepth 65536 in
theorem w_c15 : (Jvm.Cond.code ({ cls := "java/lang/AbstractStringBuilder", name := "ensureCapacityInternal", desc := "(I)V" } : Jvm.MethodName) jdk_68_method_9_code (3 : Nat) (Option.none : Option Jvm.ClassFile.FieldType)).before args0 about1 = true := code_word (m := ⟨14, 3⟩) (meth := k14m3) (c := k14c3) (by decide +kernel) rfl rfl rfl (by decide +kernel)
set_option maxRecDepth 65536 in
theorem w_c16 : (Jvm.Cond.code ({ cls := "java/lang/AbstractStringBuilder", name := "newCapacity", desc := "(I)I" } : Jvm.MethodName) jdk_68_method_10_code (6 : Nat) (Option.some Jvm.ClassFile.FieldType.int)).before args0 about1 = true := code_word (m := ⟨14, 4⟩) (meth := k14m4) (c := k14c4) (by decide +kernel) rfl rfl rfl (by decide +kernel)
set_option maxRecDepth 65536 in
theorem w_c17 : (Jvm.Cond.code ({ cls := "jdk/internal/util/ArraysSupport", name := "newLength", desc := "(III)I" } : Jvm.MethodName) jdk_48_method_27_code (4 : Nat) (Option.some Jvm.ClassFile.FieldType.int)).before args0 about1 = true := code_word (m := ⟨16, 1⟩) (meth := k16m1) (c := k16c1) (by decide +kernel) rfl rfl rfl (by decide +kernel)
set_option maxRecDepth 65536 in
theorem w_c18 : (Jvm.Cond.code ({ cls := "java/lang/Math", name := "max", desc := "(II)I" } : Jvm.MethodName) jdk_29_method_65_code (2 : Nat) (Option.some Jvm.ClassFile.FieldType.int)).before args0 about1 = true := code_word (m := ⟨17, 1⟩) (meth := k17m1) (c := k17c1) (by decide +kernel) rfl rfl rfl (by decide +kernel)
set_option maxRecDepth 65536 in
theorem w_c19 : (Jvm.Cond.code ({ cls := "java/util/Arrays", name := "copyOf", desc := "([BI)[B" } : Jvm.MethodName) jdk_65_method_121_code (3 : Nat) (Option.some (Jvm.ClassFile.FieldType.array Jvm.ClassFile.FieldType.byte))).before args0 about1 = true := code_word (m := ⟨18, 1⟩) (meth := k18m1) (c := k18c1) (by decide +kernel) rfl rfl rfl (by decide +kernel)
set_option maxRecDepth 65536 in
theorem w_c20 : (Jvm.Cond.code ({ cls := "java/lang/Math", name := "min", desc := "(II)I" } : Jvm.MethodName) jdk_29_method_69_code (2 : Nat) (Option.some Jvm.ClassFile.FieldType.int)).before args0 about1 = true := code_word (m := ⟨17, 2⟩) (meth := k17m2) (c := k17c2) (by decide +kernel) rfl rfl rfl (by decide +kernel)
set_option maxRecDepth 65536 in
theorem w_c21 : (Jvm.Cond.code ({ cls := "java/lang/AbstractStringBuilder", name := "putStringAt", desc := "(ILjava/lang/String;)V" } : Jvm.MethodName) jdk_68_method_73_code (3 : Nat) (Option.none : Option Jvm.ClassFile.FieldType)).before args0 about1 = true := code_word (m := ⟨14, 10⟩) (meth := k14m10) (c := k14c10) (by decide +kernel) rfl rfl rfl (by decide +kernel)
set_option maxRecDepth 65536 in
theorem w_c22 : (Jvm.Cond.code ({ cls := "java/lang/AbstractStringBuilder", name := "inflateIfNeededFor", desc := "(Ljava/lang/String;)V" } : Jvm.MethodName) jdk_68_method_71_code (2 : Nat) (Option.none : Option Jvm.ClassFile.FieldType)).before args0 about1 = true := code_word (m := ⟨14, 9⟩) (meth := k14m9) (c := k14c9) (by decide +kernel) rfl rfl rfl (by decide +kernel)
set_option maxRecDepth 65536 in
theorem w_c23 : (Jvm.Cond.code ({ cls := "java/lang/String", name := "getBytes", desc := "([BIB)V" } : Jvm.MethodName) jdk_42_method_147_code (4 : Nat) (Option.none : Option Jvm.ClassFile.FieldType)).before args0 about1 = true := code_word (m := ⟨7, 4⟩) (meth := k7m4) (c := k7c4) (by decide +kernel) rfl rfl rfl (by decide +kernel)
set_option maxRecDepth 65536 in
theorem w_c24 : (Jvm.Cond.code ({ cls := "java/lang/StringBuilder", name := "append", desc := "(I)Ljava/lang/StringBuilder;" } : Jvm.MethodName) jdk_67_method_15_code (2 : Nat) (Option.some (Jvm.ClassFile.FieldType.object "java/lang/StringBuilder"))).before args0 about1 = true := code_word (m := ⟨15, 2⟩) (meth := k15m2) (c := k15c2) (by decide +kernel) rfl rfl rfl (by decide +kernel)
set_option maxRecDepth 65536 in
theorem w_c25 : (Jvm.Cond.code ({ cls := "java/lang/AbstractStringBuilder", name := "append", desc := "(I)Ljava/lang/AbstractStringBuilder;" } : Jvm.MethodName) jdk_68_method_32_code (4 : Nat) (Option.some (Jvm.ClassFile.FieldType.object "java/lang/AbstractStringBuilder"))).before args0 about1 = true := code_word (m := ⟨14, 6⟩) (meth := k14m6) (c := k14c6) (by decide +kernel) rfl rfl rfl (by decide +kernel)
set_option maxRecDepth 65536 in
theorem w_c26 : (Jvm.Cond.code ({ cls := "java/lang/Integer", name := "stringSize", desc := "(I)I" } : Jvm.MethodName) jdk_33_method_13_code (4 : Nat) (Option.some Jvm.ClassFile.FieldType.int)).before args0 about1 = true := code_word (m := ⟨21, 1⟩) (meth := k21m1) (c := k21c1) (by decide +kernel) rfl rfl rfl (by decide +kernel)
set_option maxRecDepth 65536 in
theorem w_c27 : (Jvm.Cond.code ({ cls := "java/lang/AbstractStringBuilder", name := "isLatin1", desc := "()Z" } : Jvm.MethodName) jdk_68_method_68_code (1 : Nat) (Option.some Jvm.ClassFile.FieldType.boolean)).before args0 about1 = true := code_word (m := ⟨14, 8⟩) (meth := k14m8) (c := k14c8) (by decide +kernel) rfl rfl rfl (by decide +kernel)
set_option maxRecDepth 65536 in
theorem w_c28 : (Jvm.Cond.code ({ cls := "java/lang/Integer", name := "getChars", desc := "(II[B)I" } : Jvm.MethodName) jdk_33_method_12_code (7 : Nat) (Option.some Jvm.ClassFile.FieldType.int)).before args0 about1 = true := code_word (m := ⟨21, 0⟩) (meth := k21m0) (c := k21c0) (by decide +kernel) rfl rfl rfl (by decide +kernel)
set_option maxRecDepth 65536 in
theorem w_c29 : (Jvm.Cond.code ({ cls := "java/lang/StringBuilder", name := "toString", desc := "()Ljava/lang/String;" } : Jvm.MethodName) jdk_67_method_42_code (1 : Nat) (Option.some (Jvm.ClassFile.FieldType.object "java/lang/String"))).before args0 about1 = true := code_word (m := ⟨15, 3⟩) (meth := k15m3) (c := k15c3) (by decide +kernel) rfl rfl rfl (by decide +kernel)
set_option maxRecDepth 65536 in
theorem w_c30 : (Jvm.Cond.code ({ cls := "java/lang/String", name := "<init>", desc := "(Ljava/lang/StringBuilder;)V" } : Jvm.MethodName) jdk_42_method_53_code (2 : Nat) (Option.none : Option Jvm.ClassFile.FieldType)).before args0 about1 = true := code_word (m := ⟨7, 2⟩) (meth := k7m2) (c := k7c2) (by decide +kernel) rfl rfl rfl (by decide +kernel)
set_option maxRecDepth 65536 in
theorem w_c31 : (Jvm.Cond.code ({ cls := "java/lang/String", name := "<init>", desc := "(Ljava/lang/AbstractStringBuilder;Ljava/lang/Void;)V" } : Jvm.MethodName) jdk_42_method_150_code (5 : Nat) (Option.none : Option Jvm.ClassFile.FieldType)).before args0 about1 = true := code_word (m := ⟨7, 6⟩) (meth := k7m6) (c := k7c6) (by decide +kernel) rfl rfl rfl (by decide +kernel)
set_option maxRecDepth 65536 in
theorem w_c32 : (Jvm.Cond.code ({ cls := "java/lang/AbstractStringBuilder", name := "getValue", desc := "()[B" } : Jvm.MethodName) jdk_68_method_64_code (1 : Nat) (Option.some (Jvm.ClassFile.FieldType.array Jvm.ClassFile.FieldType.byte))).before args0 about1 = true := code_word (m := ⟨14, 7⟩) (meth := k14m7) (c := k14c7) (by decide +kernel) rfl rfl rfl (by decide +kernel)
set_option maxRecDepth 65536 in
theorem w_c33 : (Jvm.Cond.code ({ cls := "java/lang/StringBuilder", name := "length", desc := "()I" } : Jvm.MethodName) jdk_67_method_93_code (1 : Nat) (Option.some Jvm.ClassFile.FieldType.int)).before args0 about1 = true := code_word (m := ⟨15, 4⟩) (meth := k15m4) (c := k15c4) (by decide +kernel) rfl rfl rfl (by decide +kernel)
set_option maxRecDepth 65536 in
theorem w_c34 : (Jvm.Cond.code ({ cls := "java/lang/AbstractStringBuilder", name := "length", desc := "()I" } : Jvm.MethodName) jdk_68_method_6_code (1 : Nat) (Option.some Jvm.ClassFile.FieldType.int)).before args0 about1 = true := code_word (m := ⟨14, 2⟩) (meth := k14m2) (c := k14c2) (by decide +kernel) rfl rfl rfl (by decide +kernel)
set_option maxRecDepth 65536 in
theorem w_c35 : (Jvm.Cond.code ({ cls := "java/util/Arrays", name := "copyOfRange", desc := "([BII)[B" } : Jvm.MethodName) jdk_65_method_132_code (3 : Nat) (Option.some (Jvm.ClassFile.FieldType.array Jvm.ClassFile.FieldType.byte))).before args0 about1 = true := code_word (m := ⟨18, 3⟩) (meth := k18m3) (c := k18c3) (by decide +kernel) rfl rfl rfl (by decide +kernel)
set_option maxRecDepth 65536 in
theorem w_c36 : (Jvm.Cond.code ({ cls := "java/util/Arrays", name := "copyOfRangeByte", desc := "([BII)[B" } : Jvm.MethodName) jdk_65_method_133_code (5 : Nat) (Option.some (Jvm.ClassFile.FieldType.array Jvm.ClassFile.FieldType.byte))).before args0 about1 = true := code_word (m := ⟨18, 4⟩) (meth := k18m4) (c := k18c4) (by decide +kernel) rfl rfl rfl (by decide +kernel)
set_option maxRecDepth 65536 in
theorem w_c37 : (Jvm.Cond.code ({ cls := "java/util/Arrays", name := "checkLength", desc := "(II)V" } : Jvm.MethodName) jdk_65_method_131_code (2 : Nat) (Option.none : Option Jvm.ClassFile.FieldType)).before args0 about1 = true := code_word (m := ⟨18, 2⟩) (meth := k18m2) (c := k18c2) (by decide +kernel) rfl rfl rfl (by decide +kernel)
set_option maxRecDepth 65536 in
theorem w_c38 : (Jvm.Cond.code ({ cls := "java/io/IOException", name := "<init>", desc := "(Ljava/lang/String;)V" } : Jvm.MethodName) jdk_131_method_2_code (2 : Nat) (Option.none : Option Jvm.ClassFile.FieldType)).before args0 about1 = true := code_word (m := ⟨11, 1⟩) (meth := k11m1) (c := k11c1) (by decide +kernel) rfl rfl rfl (by decide +kernel)
set_option maxRecDepth 65536 in
theorem w_c39 : (Jvm.Cond.code ({ cls := "java/lang/Exception", name := "<init>", desc := "(Ljava/lang/String;)V" } : Jvm.MethodName) jdk_59_method_2_code (2 : Nat) (Option.none : Option Jvm.ClassFile.FieldType)).before args0 about1 = true := code_word (m := ⟨10, 1⟩) (meth := k10m1) (c := k10c1) (by decide +kernel) rfl rfl rfl (by decide +kernel)
set_option maxRecDepth 65536 in
theorem w_c40 : (Jvm.Cond.code ({ cls := "java/lang/Throwable", name := "<init>", desc := "(Ljava/lang/String;)V" } : Jvm.MethodName) jdk_78_method_2_code (2 : Nat) (Option.none : Option Jvm.ClassFile.FieldType)).before args0 about1 = true := code_word (m := ⟨9, 1⟩) (meth := k9m1) (c := k9c1) (by decide +kernel) rfl rfl rfl (by decide +kernel)
set_option maxRecDepth 65536 in
theorem w_c41 : (Jvm.Cond.code ({ cls := "java/lang/Throwable", name := "<init>", desc := "()V" } : Jvm.MethodName) jdk_78_method_1_code (1 : Nat) (Option.none : Option Jvm.ClassFile.FieldType)).before args0 about1 = true := code_word (m := ⟨9, 0⟩) (meth := k9m0) (c := k9c0) (by decide +kernel) rfl rfl rfl (by decide +kernel)
set_option maxRecDepth 65536 in
theorem w_c42 : (Jvm.Cond.code ({ cls := "com/example/dispatchbook/dispatchbook/amqp/BrokerClosedException", name := "refusedMessage", desc := "()Z" } : Jvm.MethodName) prog_8_method_3_code (1 : Nat) (Option.some Jvm.ClassFile.FieldType.boolean)).before args0 about1 = true := code_word (m := ⟨12, 1⟩) (meth := k12m1) (c := k12c1) (by decide +kernel) rfl rfl rfl (by decide +kernel)
set_option maxRecDepth 65536 in
theorem w_c43 : (Jvm.Cond.code ({ cls := "com/example/dispatchbook/dispatchbook/amqp/BrokerClosedExceptionRefusedMessagePinLaw", name := "expected", desc := "(ZI)Z" } : Jvm.MethodName) method_3_code (2 : Nat) (Option.some Jvm.ClassFile.FieldType.boolean)).before args0 about1 = true := code_word (m := ⟨1, 2⟩) (meth := k1m2) (c := k1c2) (by decide +kernel) rfl rfl rfl (by decide +kernel)
def codes1 : List Jvm.Cond := [Jvm.Cond.code x code maxLocals ret, Jvm.Cond.code ({ cls := "com/example/dispatchbook/dispatchbook/amqp/BrokerClosedExceptionRefusedMessagePinLaw", name := "pickCode", desc := "(II)I" } : Jvm.MethodName) method_2_code (2 : Nat) (Option.some Jvm.ClassFile.FieldType.int), Jvm.Cond.code ({ cls := "java/lang/String", name := "<init>", desc := "([C)V" } : Jvm.MethodName) jdk_42_method_3_code (2 : Nat) (Option.none : Option Jvm.ClassFile.FieldType), Jvm.Cond.code ({ cls := "java/lang/String", name := "<init>", desc := "([CIILjava/lang/Void;)V" } : Jvm.MethodName) jdk_42_method_149_code (6 : Nat) (Option.none : Option Jvm.ClassFile.FieldType), Jvm.Cond.code ({ cls := "java/lang/Object", name := "<init>", desc := "()V" } : Jvm.MethodName) object_method_1_code (1 : Nat) (Option.none : Option Jvm.ClassFile.FieldType), Jvm.Cond.code ({ cls := "java/lang/StringUTF16", name := "compress", desc := "([CII)[B" } : Jvm.MethodName) jdk_52_method_16_code (6 : Nat) (Option.some (Jvm.ClassFile.FieldType.array Jvm.ClassFile.FieldType.byte)), Jvm.Cond.code ({ cls := "java/lang/StringUTF16", name := "compress", desc := "([CI[BII)I" } : Jvm.MethodName) jdk_52_method_21_code (7 : Nat) (Option.some Jvm.ClassFile.FieldType.int), Jvm.Cond.code ({ cls := "java/lang/StringUTF16", name := "coderFromArrayLen", desc := "([BI)B" } : Jvm.MethodName) jdk_52_method_15_code (2 : Nat) (Option.some Jvm.ClassFile.FieldType.byte), Jvm.Cond.code ({ cls := "com/example/dispatchbook/dispatchbook/amqp/BrokerClosedException", name := "<init>", desc := "(ZILjava/lang/String;)V" } : Jvm.MethodName) prog_8_method_1_code (4 : Nat) (Option.none : Option Jvm.ClassFile.FieldType), Jvm.Cond.code ({ cls := "java/lang/StringBuilder", name := "<init>", desc := "()V" } : Jvm.MethodName) jdk_67_method_1_code (1 : Nat) (Option.none : Option Jvm.ClassFile.FieldType), Jvm.Cond.code ({ cls := "java/lang/AbstractStringBuilder", name := "<init>", desc := "(I)V" } : Jvm.MethodName) jdk_68_method_2_code (2 : Nat) (Option.none : Option Jvm.ClassFile.FieldType), Jvm.Cond.code ({ cls := "java/lang/StringBuilder", name := "append", desc := "(Ljava/lang/String;)Ljava/lang/StringBuilder;" } : Jvm.MethodName) jdk_67_method_7_code (2 : Nat) (Option.some (Jvm.ClassFile.FieldType.object "java/lang/StringBuilder")), Jvm.Cond.code ({ cls := "java/lang/AbstractStringBuilder", name := "append", desc := "(Ljava/lang/String;)Ljava/lang/AbstractStringBuilder;" } : Jvm.MethodName) jdk_68_method_22_code (3 : Nat) (Option.some (Jvm.ClassFile.FieldType.object "java/lang/AbstractStringBuilder")), Jvm.Cond.code ({ cls := "java/lang/String", name := "length", desc := "()I" } : Jvm.MethodName) jdk_42_method_54_code (1 : Nat) (Option.some Jvm.ClassFile.FieldType.int), Jvm.Cond.code ({ cls := "java/lang/String", name := "coder", desc := "()B" } : Jvm.MethodName) jdk_42_method_152_code (1 : Nat) (Option.some Jvm.ClassFile.FieldType.byte), Jvm.Cond.code ({ cls := "java/lang/AbstractStringBuilder", name := "ensureCapacityInternal", desc := "(I)V" } : Jvm.MethodName) jdk_68_method_9_code (3 : Nat) (Option.none : Option Jvm.ClassFile.FieldType), Jvm.Cond.code ({ cls := "java/lang/AbstractStringBuilder", name := "newCapacity", desc := "(I)I" } : Jvm.MethodName) jdk_68_method_10_code (6 : Nat) (Option.some Jvm.ClassFile.FieldType.int), Jvm.Cond.code ({ cls := "jdk/internal/util/ArraysSupport", name := "newLength", desc := "(III)I" } : Jvm.MethodName) jdk_48_method_27_code (4 : Nat) (Option.some Jvm.ClassFile.FieldType.int), Jvm.Cond.code ({ cls := "java/lang/Math", name := "max", desc := "(II)I" } : Jvm.MethodName) jdk_29_method_65_code (2 : Nat) (Option.some Jvm.ClassFile.FieldType.int), Jvm.Cond.code ({ cls := "java/util/Arrays", name := "copyOf", desc := "([BI)[B" } : Jvm.MethodName) jdk_65_method_121_code (3 : Nat) (Option.some (Jvm.ClassFile.FieldType.array Jvm.ClassFile.FieldType.byte)), Jvm.Cond.code ({ cls := "java/lang/Math", name := "min", desc := "(II)I" } : Jvm.MethodName) jdk_29_method_69_code (2 : Nat) (Option.some Jvm.ClassFile.FieldType.int), Jvm.Cond.code ({ cls := "java/lang/AbstractStringBuilder", name := "putStringAt", desc := "(ILjava/lang/String;)V" } : Jvm.MethodName) jdk_68_method_73_code (3 : Nat) (Option.none : Option Jvm.ClassFile.FieldType), Jvm.Cond.code ({ cls := "java/lang/AbstractStringBuilder", name := "inflateIfNeededFor", desc := "(Ljava/lang/String;)V" } : Jvm.MethodName) jdk_68_method_71_code (2 : Nat) (Option.none : Option Jvm.ClassFile.FieldType), Jvm.Cond.code ({ cls := "java/lang/String", name := "getBytes", desc := "([BIB)V" } : Jvm.MethodName) jdk_42_method_147_code (4 : Nat) (Option.none : Option Jvm.ClassFile.FieldType), Jvm.Cond.code ({ cls := "java/lang/StringBuilder", name := "append", desc := "(I)Ljava/lang/StringBuilder;" } : Jvm.MethodName) jdk_67_method_15_code (2 : Nat) (Option.some (Jvm.ClassFile.FieldType.object "java/lang/StringBuilder")), Jvm.Cond.code ({ cls := "java/lang/AbstractStringBuilder", name := "append", desc := "(I)Ljava/lang/AbstractStringBuilder;" } : Jvm.MethodName) jdk_68_method_32_code (4 : Nat) (Option.some (Jvm.ClassFile.FieldType.object "java/lang/AbstractStringBuilder")), Jvm.Cond.code ({ cls := "java/lang/Integer", name := "stringSize", desc := "(I)I" } : Jvm.MethodName) jdk_33_method_13_code (4 : Nat) (Option.some Jvm.ClassFile.FieldType.int), Jvm.Cond.code ({ cls := "java/lang/AbstractStringBuilder", name := "isLatin1", desc := "()Z" } : Jvm.MethodName) jdk_68_method_68_code (1 : Nat) (Option.some Jvm.ClassFile.FieldType.boolean), Jvm.Cond.code ({ cls := "java/lang/Integer", name := "getChars", desc := "(II[B)I" } : Jvm.MethodName) jdk_33_method_12_code (7 : Nat) (Option.some Jvm.ClassFile.FieldType.int), Jvm.Cond.code ({ cls := "java/lang/StringBuilder", name := "toString", desc := "()Ljava/lang/String;" } : Jvm.MethodName) jdk_67_method_42_code (1 : Nat) (Option.some (Jvm.ClassFile.FieldType.object "java/lang/String")), Jvm.Cond.code ({ cls := "java/lang/String", name := "<init>", desc := "(Ljava/lang/StringBuilder;)V" } : Jvm.MethodName) jdk_42_method_53_code (2 : Nat) (Option.none : Option Jvm.ClassFile.FieldType), Jvm.Cond.code ({ cls := "java/lang/String", name := "<init>", desc := "(Ljava/lang/AbstractStringBuilder;Ljava/lang/Void;)V" } : Jvm.MethodName) jdk_42_method_150_code (5 : Nat) (Option.none : Option Jvm.ClassFile.FieldType), Jvm.Cond.code ({ cls := "java/lang/AbstractStringBuilder", name := "getValue", desc := "()[B" } : Jvm.MethodName) jdk_68_method_64_code (1 : Nat) (Option.some (Jvm.ClassFile.FieldType.array Jvm.ClassFile.FieldType.byte)), Jvm.Cond.code ({ cls := "java/lang/StringBuilder", name := "length", desc := "()I" } : Jvm.MethodName) jdk_67_method_93_code (1 : Nat) (Option.some Jvm.ClassFile.FieldType.int), Jvm.Cond.code ({ cls := "java/lang/AbstractStringBuilder", name := "length", desc := "()I" } : Jvm.MethodName) jdk_68_method_6_code (1 : Nat) (Option.some Jvm.ClassFile.FieldType.int), Jvm.Cond.code ({ cls := "java/util/Arrays", name := "copyOfRange", desc := "([BII)[B" } : Jvm.MethodName) jdk_65_method_132_code (3 : Nat) (Option.some (Jvm.ClassFile.FieldType.array Jvm.ClassFile.FieldType.byte)), Jvm.Cond.code ({ cls := "java/util/Arrays", name := "copyOfRangeByte", desc := "([BII)[B" } : Jvm.MethodName) jdk_65_method_133_code (5 : Nat) (Option.some (Jvm.ClassFile.FieldType.array Jvm.ClassFile.FieldType.byte)), Jvm.Cond.code ({ cls := "java/util/Arrays", name := "checkLength", desc := "(II)V" } : Jvm.MethodName) jdk_65_method_131_code (2 : Nat) (Option.none : Option Jvm.ClassFile.FieldType), Jvm.Cond.code ({ cls := "java/io/IOException", name := "<init>", desc := "(Ljava/lang/String;)V" } : Jvm.MethodName) jdk_131_method_2_code (2 : Nat) (Option.none : Option Jvm.ClassFile.FieldType), Jvm.Cond.code ({ cls := "java/lang/Exception", name := "<init>", desc := "(Ljava/lang/String;)V" } : Jvm.MethodName) jdk_59_method_2_code (2 : Nat) (Option.none : Option Jvm.ClassFile.FieldType), Jvm.Cond.code ({ cls := "java/lang/Throwable", name := "<init>", desc := "(Ljava/lang/String;)V" } : Jvm.MethodName) jdk_78_method_2_code (2 : Nat) (Option.none : Option Jvm.ClassFile.FieldType), Jvm.Cond.code ({ cls := "java/lang/Throwable", name := "<init>", desc := "()V" } : Jvm.MethodName) jdk_78_method_1_code (1 : Nat) (Option.none : Option Jvm.ClassFile.FieldType), Jvm.Cond.code ({ cls := "com/example/dispatchbook/dispatchbook/amqp/BrokerClosedException", name := "refusedMessage", desc := "()Z" } : Jvm.MethodName) prog_8_method_3_code (1 : Nat) (Option.some Jvm.ClassFile.FieldType.boolean), Jvm.Cond.code ({ cls := "com/example/dispatchbook/dispatchbook/amqp/BrokerClosedExceptionRefusedMessagePinLaw", name := "expected", desc := "(ZI)Z" } : Jvm.MethodName) method_3_code (2 : Nat) (Option.some Jvm.ClassFile.FieldType.boolean)]
set_option maxRecDepth 65536 in
theorem codes_eq : words1.filter isCode = codes1 := rfl
theorem w_codes : ∀ c ∈ words1.filter isCode, c.before args0 about1 = true := by
  rw [codes_eq]
  intro c hc
  simp only [codes1, List.mem_cons, List.not_mem_nil, or_false] at hc
  rcases hc with rfl | rfl | rfl | rfl | rfl | rfl | rfl | rfl | rfl | rfl | rfl | rfl | rfl | rfl | rfl | rfl | rfl | rfl | rfl | rfl | rfl | rfl | rfl | rfl | rfl | rfl | rfl | rfl | rfl | rfl | rfl | rfl | rfl | rfl | rfl | rfl | rfl | rfl | rfl | rfl | rfl | rfl | rfl | rfl
  · exact w_c0
  · exact w_c1
  · exact w_c2
  · exact w_c3
  · exact w_c4
  · exact w_c5
  · exact w_c6
  · exact w_c7
  · exact w_c8
  · exact w_c9
  · exact w_c10
  · exact w_c11
  · exact w_c12
  · exact w_c13
  · exact w_c14
  · exact w_c15
  · exact w_c16
  · exact w_c17
  · exact w_c18
  · exact w_c19
  · exact w_c20
  · exact w_c21
  · exact w_c22
  · exact w_c23
  · exact w_c24
  · exact w_c25
  · exact w_c26
  · exact w_c27
  · exact w_c28
  · exact w_c29
  · exact w_c30
  · exact w_c31
  · exact w_c32
  · exact w_c33
  · exact w_c34
  · exact w_c35
  · exact w_c36
  · exact w_c37
  · exact w_c38
  · exact w_c39
  · exact w_c40
  · exact w_c41
  · exact w_c42
  · exact w_c43
set_option maxRecDepth 65536 in
theorem w_t1 : (words1.take 24).all (fun c => isCode c || c.before args0 about1) = true := by decide +kernel
set_option maxRecDepth 65536 in
theorem w_t2 : ((words1.drop 24).take 24).all (fun c => isCode c || c.before args0 about1) = true := by decide +kernel
set_option maxRecDepth 65536 in
theorem w_t3 : (((words1.drop 24).drop 24).take 24).all (fun c => isCode c || c.before args0 about1) = true := by decide +kernel
set_option maxRecDepth 65536 in
theorem w_t4 : ((((words1.drop 24).drop 24).drop 24).take 24).all (fun c => isCode c || c.before args0 about1) = true := by decide +kernel
set_option maxRecDepth 65536 in
theorem w_t5 : (((((words1.drop 24).drop 24).drop 24).drop 24).take 24).all (fun c => isCode c || c.before args0 about1) = true := by decide +kernel
set_option maxRecDepth 65536 in
theorem w_t6 : ((((((words1.drop 24).drop 24).drop 24).drop 24).drop 24).take 24).all (fun c => isCode c || c.before args0 about1) = true := by decide +kernel
set_option maxRecDepth 65536 in
theorem w_t7 : (((((((words1.drop 24).drop 24).drop 24).drop 24).drop 24).drop 24).take 24).all (fun c => isCode c || c.before args0 about1) = true := by decide +kernel
set_option maxRecDepth 65536 in
theorem w_t8 : ((((((((words1.drop 24).drop 24).drop 24).drop 24).drop 24).drop 24).drop 24).take 24).all (fun c => isCode c || c.before args0 about1) = true := by decide +kernel
set_option maxRecDepth 65536 in
theorem w_t9 : (((((((((words1.drop 24).drop 24).drop 24).drop 24).drop 24).drop 24).drop 24).drop 24).take 24).all (fun c => isCode c || c.before args0 about1) = true := by decide +kernel
set_option maxRecDepth 65536 in
theorem w_t10 : ((((((((((words1.drop 24).drop 24).drop 24).drop 24).drop 24).drop 24).drop 24).drop 24).drop 24).take 24).all (fun c => isCode c || c.before args0 about1) = true := by decide +kernel
set_option maxRecDepth 65536 in
theorem w_t11 : (((((((((((words1.drop 24).drop 24).drop 24).drop 24).drop 24).drop 24).drop 24).drop 24).drop 24).drop 24).take 24).all (fun c => isCode c || c.before args0 about1) = true := by decide +kernel
set_option maxRecDepth 65536 in
theorem w_t12 : (((((((((((words1.drop 24).drop 24).drop 24).drop 24).drop 24).drop 24).drop 24).drop 24).drop 24).drop 24).drop 24).all (fun c => isCode c || c.before args0 about1) = true := by decide +kernel
theorem w_tables : (allAtoms (Jvm.Cond.code x code maxLocals ret :: tables_1)).before args0 about1 = true := by
  rw [allAtoms_all]
  show words1.all (fun c => c.before args0 about1) = true
  refine all_split ?_ w_codes
  rw [← List.take_append_drop 24 words1, List.all_append, w_t1, ← List.take_append_drop 24 (words1.drop 24), List.all_append, w_t2, ← List.take_append_drop 24 ((words1.drop 24).drop 24), List.all_append, w_t3, ← List.take_append_drop 24 (((words1.drop 24).drop 24).drop 24), List.all_append, w_t4, ← List.take_append_drop 24 ((((words1.drop 24).drop 24).drop 24).drop 24), List.all_append, w_t5, ← List.take_append_drop 24 (((((words1.drop 24).drop 24).drop 24).drop 24).drop 24), List.all_append, w_t6, ← List.take_append_drop 24 ((((((words1.drop 24).drop 24).drop 24).drop 24).drop 24).drop 24), List.all_append, w_t7, ← List.take_append_drop 24 (((((((words1.drop 24).drop 24).drop 24).drop 24).drop 24).drop 24).drop 24), List.all_append, w_t8, ← List.take_append_drop 24 ((((((((words1.drop 24).drop 24).drop 24).drop 24).drop 24).drop 24).drop 24).drop 24), List.all_append, w_t9, ← List.take_append_drop 24 (((((((((words1.drop 24).drop 24).drop 24).drop 24).drop 24).drop 24).drop 24).drop 24).drop 24), List.all_append, w_t10, ← List.take_append_drop 24 ((((((((((words1.drop 24).drop 24).drop 24).drop 24).drop 24).drop 24).drop 24).drop 24).drop 24).drop 24), List.all_append, w_t11, w_t12]
  rfl
set_option maxRecDepth 65536 in
theorem w_rest : rest_1_c.before args0 about1 = true := by decide +kernel
set_option maxRecDepth 65536 in
theorem w_case : (Jvm.Cond.and given_1 narrow_1).before args0 about1 = true := by decide +kernel
set_option maxRecDepth 65536 in
theorem w_consts : constsHeld consts_1 about1 := Jvm.Lit.constsHeldB_iff.mp (by decide +kernel)
theorem w_applies : (headSpec (Jvm.Cond.code x code maxLocals ret :: tables_1) room_1).applies x e0.platform about1 = true :=
  (Spec.applies_iff w_frames).mpr ⟨w_running, w_runnable, w_alone, w_named, w_hears, w_ripe, w_room, w_tables⟩
theorem atStart : AtStart classFile x code maxLocals ret World_1 tables_1 room_1 Calls_1 rest_1 Pre_1 launch0 p0 e0 about1 theMethod args0 below0 :=
  ⟨lists_1, trivial, launch0.admits_env _ _ _, launch0.least_env, fairChoices_fair.cas, fairChoices_fair.clock, w_frames, w_args, w_heap, w_applies, ⟨(by decide +kernel : framesKnown about1 = true), ⟨(by decide +kernel : tablesKnown about1 = true), ⟨w_consts, trivial⟩⟩⟩, w_rest, w_case⟩
end start1
theorem witness_1 : WitnessClaimed_1 := ⟨start1.p0, start1.e0, start1.about1, start1.theMethod, start1.args0, start1.below0, start1.atStart⟩
end Jvm.Pilot.@@N@@
