import JvmDerived
import JvmDerived.Pilot.@@N@@Statement
import JvmDerived.Pilot.@@N@@Code
set_option linter.unusedVariables false
set_option linter.unusedSimpArgs false
namespace Jvm.RoadKit
open Sem ClassFile Op Lib Jvm.Stand Jvm.Free Jvm.LawKit
section New
variable {p : Program} {l : Launch} {e : Env} {R : Room} {s : State} {m : MethodId} {args : Array Value} {below : List Frame} {meth : Method} {c : Code} {T : State} {locs : List Loc} {cells slots : Nat}
theorem retI (X : Stand p l e R s m args below meth c T locs cells slots) (hx : p.tables.exec = Jvm.exec) {pc : Nat} {Ls : Array Slot} {z : Int32} {rest : List Value} (hret : meth.sig.returnType = some .int) (hd : decode c.code pc = .ok (.ireturn, 1)) {fs : List Frame}
    (hl : ∀ (f : JFrame) (acts : List Action), f.method = m → f.locked = none → f.entered = [] → (doReturn e (T.setTop f) acts (some (.int z))).1 = T.setFrames fs) : Steps p.tables e below (T.setTop (mkF m pc Ls (.int z :: rest))) (T.setFrames fs) := by
  have hm' : T.vm.method? m = some meth := X.method'
  have hn : narrow .int (.int z) = .int z := rfl
  show Steps p.tables e below (T.setTop { method := m, pc := pc, locals := Ls, stack := _ :: rest, locked := none }) _
  jvm_step X.here [X.here.top, hx, hd, hm', hret, hn]
  first | (intro acts; rw [hl _ acts rfl rfl rfl]) | rw [hl _ _ rfl rfl rfl]
  exact Steps.refl _
end New
end Jvm.RoadKit
namespace Jvm.Pilot.@@N@@
open Jvm Jvm.ClassFile Sem Op Lib Jvm.Free Jvm.Stand Jvm.LawKit Jvm.RoadKit Bundle Jvm.Pilot.@@N@@.Jvm.D
abbrev un : Slot := .unset
theorem own_tn {j : Int32} {i : Nat} (hj : j.toInt = (i : Int)) : j.toNatClampNeg = i := by
  simp only [Int32.toNatClampNeg, hj]; rfl
theorem own_inb {j : Int32} {i n k : Nat} (hj : j.toInt = (i : Int)) (hi : i < n) (hn : k = n) : ¬ (j < 0 ∨ k ≤ j.toNatClampNeg) := by
  rw [own_tn hj, hn]
  rintro (h | h)
  · rw [Int32.lt_iff_toInt_lt, hj] at h
    have e0 : (0 : Int32).toInt = 0 := rfl
    omega
  · omega
theorem own_selP {s : State} {a1 a2 : Array Value} {y : MethodName} {n : Nat} (wi : (Jvm.Cond.instantiable y.cls n).before a1 s = true) (hpriv : s.PrivateAt y) (hinst : (Jvm.Cond.instanceMethod y).before a2 s = true) (hy : y.cls ≠ "java/lang/invoke/MethodHandle" ∧ y.cls ≠ "java/lang/invoke/VarHandle") : (Jvm.Cond.selects y.cls y y).before a2 s = true := by
  obtain ⟨c, k, h1, h2, h3, h4, -⟩ := Cond.instantiable_spec wi
  exact selects_self_of_private h1 h2 (by simp at h4; exact h4.1) hpriv hinst hy
def Ends (tb : Tables) (e : Env) (below : List Frame) (G : State → Outcome → Prop) (S : State) : Prop := ∃ s₂ o, Steps tb e below S s₂ ∧ s₂.status = .running ∧ Ended s₂ below o ∧ G s₂ o
section OwnEnds
variable {tb : Tables} {e : Env} {below : List Frame} {G : State → Outcome → Prop} {S S' : State}
theorem Ends.go (h : ∀ t, Steps tb e below S' t → Steps tb e below S t) (k : Ends tb e below G S') : Ends tb e below G S := by
  obtain ⟨s₂, o, a, b⟩ := k
  exact ⟨s₂, o, h _ a, b⟩
theorem Ends.any (h : ∀ G', (∀ s₂ o, G s₂ o → G' s₂ o) → Ends tb e below G' S) : Ends tb e below G S := h G fun _ _ k => k
end OwnEnds
section OwnFin
variable {p : Program} {l : Launch} {e : Env} {R : Room} {s : State} {m : MethodId} {args : Array Value} {below : List Frame} {meth : Method} {c : Code} {T : State} {locs : List Loc} {cells slots : Nat} {G : State → Outcome → Prop}
theorem own_finI (X : Stand p l e R s m args below meth c T locs cells slots) (hx : p.tables.exec = Jvm.exec) {pc : Nat} {Ls : Array Slot} {z : Int32} {rest : List Value} (hret : meth.sig.returnType = some .int) (hlk : meth.locks = false) (hd : decode c.code pc = .ok (.ireturn, 1)) {Q : Option Value → Heap → List Loc → Prop} {C K : Nat}
    (hG : ∀ s₂ o, (∃ v L, o = .returned v ∧ Q v s₂.heap L ∧ FrameEnd s o s₂ L C K) → G s₂ o) (hC : cells ≤ C) (hK : slots ≤ K) (hQ : Q (some (.int z)) T.heap locs) : Ends p.tables e below G (T.setTop (mkF m pc Ls (.int z :: rest))) := by
  obtain ⟨fs, hr, hrun, hended, hW, hsame⟩ := X.leave (v := some (.int z)) (fun h => by rw [hret] at h; cases h)
  exact ⟨_, _, retI X hx hret hd hr, hrun, hended, hG _ _ ⟨_, _, rfl, hQ, ⟨_, rfl⟩, hW, hsame.mono hC hK⟩⟩
theorem own_finS (X : Stand p l e R s m args below meth c T locs cells slots) (hx : p.tables.exec = Jvm.exec) {t : FieldType} {pc : Nat} {Ls : Array Slot} {z : Int32} {rest : List Value} (hret : meth.sig.returnType = some t) (ht : t = .boolean ∨ t = .byte ∨ t = .char ∨ t = .short) (hlk : meth.locks = false) (hd : decode c.code pc = .ok (.ireturn, 1)) {Q : Option Value → Heap → List Loc → Prop} {C K : Nat}
    (hG : ∀ s₂ o, (∃ v L, o = .returned v ∧ Q v s₂.heap L ∧ FrameEnd s o s₂ L C K) → G s₂ o) (hC : cells ≤ C) (hK : slots ≤ K) (hQ : Q (some (.int (nar t z))) T.heap locs) : Ends p.tables e below G (T.setTop (mkF m pc Ls (.int z :: rest))) := by
  obtain ⟨fs, hr, hrun, hended, hW, hsame⟩ := X.leave (v := some (.int (nar t z))) (fun h => by rw [hret] at h; cases h)
  exact ⟨_, _, retN X hx (t := t) hret ht hd hr, hrun, hended, hG _ _ ⟨_, _, rfl, hQ, ⟨_, rfl⟩, hW, hsame.mono hC hK⟩⟩
theorem own_finN (X : Stand p l e R s m args below meth c T locs cells slots) (hx : p.tables.exec = Jvm.exec) {pc : Nat} {Ls : Array Slot} (hret : meth.sig.returnType = none) (hlk : meth.locks = false) (hd : decode c.code pc = .ok (.return_, 1)) {Q : Option Value → Heap → List Loc → Prop} {C K : Nat}
    (hG : ∀ s₂ o, (∃ v L, o = .returned v ∧ Q v s₂.heap L ∧ FrameEnd s o s₂ L C K) → G s₂ o) (hC : cells ≤ C) (hK : slots ≤ K) (hQ : Q none T.heap locs) : Ends p.tables e below G (T.setTop (mkF m pc Ls [])) := by
  obtain ⟨fs, hr, hrun, hended, hW, hsame⟩ := X.leave (v := none) (fun _ => rfl)
  exact ⟨_, _, X.returnOut hx hret hd hr, hrun, hended, hG _ _ ⟨_, _, rfl, hQ, ⟨_, rfl⟩, hW, hsame.mono hC hK⟩⟩
end OwnFin
/-- an array by what each place holds -/
def AF (Z : State) (h : Heap) (a : Addr) (ty : FieldType) (n : Nat) (f : Nat → Value) : Prop := ∃ c : Cell, Arr Z h a c ty ∧ c.slots.size = n ∧ ∀ j, j < n → c.slots[j]? = some (f j)
section OwnAF
variable {Z : State} {h h' : Heap} {a b : Addr} {ty : FieldType} {n sl : Nat} {f g : Nat → Value} {v : Value} {ws : List Addr}
theorem AF.lt (F : AF Z h a ty n f) : a < h.size := by obtain ⟨c, A, -⟩ := F; exact A.lt
theorem AF.ext (F : AF Z h a ty n f) (E : Ext h h') : AF Z h' a ty n f := by obtain ⟨c, A, r⟩ := F; exact ⟨c, A.ext E, r⟩
theorem AF.other (F : AF Z h b ty n f) (W : Wr h h' a sl v) (q : b ≠ a) : AF Z h' b ty n f := by obtain ⟨c, A, r⟩ := F; exact ⟨c, A.other W q, r⟩
theorem AF.keep (F : AF Z h a ty n f) (K : Keep h h' ws) (q : a ∉ ws) : AF Z h' a ty n f := by obtain ⟨c, A, r⟩ := F; exact ⟨c, ⟨K.2.1 a c A.1 q, A.2⟩, r⟩
theorem AF.congr (F : AF Z h a ty n f) (q : ∀ j, j < n → f j = g j) : AF Z h a ty n g := by obtain ⟨c, A, r, u⟩ := F; exact ⟨c, A, r, fun j hj => by rw [u j hj, q j hj]⟩
theorem AF.new {k : ClassId} {z : Int32} (A : Arr Z h a (newA k ty z) ty) (q : z.toNatClampNeg = n) : AF Z h a ty n (fun _ => defaultValue ty) := ⟨_, A, by rw [sz_new]; exact q, fun i hi => by
  rw [← q] at hi; simp [newA, hi]⟩
theorem AF.set (F : AF Z h a ty n f) (W : Wr h h' a sl v) (hs : sl < n) : AF Z h' a ty n (fun k => if k = sl then v else f k) := by
  obtain ⟨c, A, r, u⟩ := F
  refine ⟨_, A.same W, by rw [sz_set]; exact r, fun j hj => ?_⟩
  by_cases q : j = sl
  · subst q; simp [Cell.setSlot, r, hj]
  · have := u j hj
    simp only [Cell.setSlot, if_neg q]
    rw [Array.getElem?_setIfInBounds_ne (fun z => q z.symm)]; exact this
variable {p : Program} {l : Launch} {e : Env} {R : Room} {s : State} {m : MethodId} {args : Array Value} {below : List Frame} {meth : Method} {c : Code} {T : State} {locs : List Loc} {cells slots : Nat}
theorem AF.ldB (F : AF Z h a .byte n f) (X : Stand p l e R s m args below meth c T locs cells slots) (hx : p.tables.exec = Jvm.exec) (hZ : Z.Warmed39 s.vm) (eT : T.heap = h) {j : Int32} {i : Nat} (hj : j.toInt = (i : Int)) (hi : i < n) {v : Value} (hv : f i = v) {g : JFrame} (hg : g.method = m) {rest : List Value} (hs : g.stack = .int j :: .ref a :: rest) (hd : decode c.code g.pc = .ok (.baload, 1)) (target : State)
    (k : Steps p.tables e below (T.setTop { g with pc := g.pc + 1, stack := v :: rest }) target) : Steps p.tables e below (T.setTop g) target := by
  obtain ⟨cl, A, r, u⟩ := F
  exact X.baloadBytes hx (by rw [eT]; exact A.1) (State.isArrayOf_alike hZ.alike A.2.1) A.2.2 (own_inb hj hi r) (by rw [own_tn hj, u i hi, hv]) hg hs hd _ k
theorem AF.ldC (F : AF Z h a .char n f) (X : Stand p l e R s m args below meth c T locs cells slots) (hx : p.tables.exec = Jvm.exec) (hZ : Z.Warmed39 s.vm) (eT : T.heap = h) {j : Int32} {i : Nat} (hj : j.toInt = (i : Int)) (hi : i < n) {v : Value} (hv : f i = v) {g : JFrame} (hg : g.method = m) {rest : List Value} (hs : g.stack = .int j :: .ref a :: rest) (hd : decode c.code g.pc = .ok (.caload, 1)) (target : State)
    (k : Steps p.tables e below (T.setTop { g with pc := g.pc + 1, stack := v :: rest }) target) : Steps p.tables e below (T.setTop g) target := by
  obtain ⟨cl, A, r, u⟩ := F
  exact X.caload hx (by rw [eT]; exact A.1) (State.isArrayOf_alike hZ.alike A.2.1) A.2.2 (own_inb hj hi r) (by rw [own_tn hj, u i hi, hv]) hg hs hd _ k
theorem AF.ldJ (F : AF Z h a .long n f) (X : Stand p l e R s m args below meth c T locs cells slots) (hx : p.tables.exec = Jvm.exec) (hZ : Z.Warmed39 s.vm) (eT : T.heap = h) {j : Int32} {i : Nat} (hj : j.toInt = (i : Int)) (hi : i < n) {v : Value} (hv : f i = v) {g : JFrame} (hg : g.method = m) {rest : List Value} (hs : g.stack = .int j :: .ref a :: rest) (hd : decode c.code g.pc = .ok (.laload, 1)) (target : State)
    (k : Steps p.tables e below (T.setTop { g with pc := g.pc + 1, stack := v :: rest }) target) : Steps p.tables e below (T.setTop g) target := by
  obtain ⟨cl, A, r, u⟩ := F
  exact X.laload hx (by rw [eT]; exact A.1) (State.isArrayOf_alike hZ.alike A.2.1) A.2.2 (own_inb hj hi r) (by rw [own_tn hj, u i hi, hv]) hg hs hd _ k
theorem AF.len (F : AF Z h a ty n f) (X : Stand p l e R s m args below meth c T locs cells slots) (hx : p.tables.exec = Jvm.exec) (hZ : Z.Warmed39 s.vm) (eT : T.heap = h) {z : Int32} (hz : n.toInt32 = z) {g : JFrame} (hg : g.method = m) {rest : List Value} (hs : g.stack = .ref a :: rest) (hd : decode c.code g.pc = .ok (.arraylength, 1)) (target : State)
    (k : Steps p.tables e below (T.setTop { g with pc := g.pc + 1, stack := .int z :: rest }) target) : Steps p.tables e below (T.setTop g) target := by
  obtain ⟨cl, A, r, u⟩ := F
  subst hz r
  exact X.arraylength hx (by rw [eT]; exact A.1) (State.isArrayOf_alike hZ.alike A.2.1) hg hs hd _ k
theorem AF.stB (F : AF Z h a .byte n f) (X : Stand p l e R s m args below meth c T locs cells slots) (hx : p.tables.exec = Jvm.exec) (hZ : Z.Warmed39 s.vm) (eT : T.heap = h) {j x : Int32} {i : Nat} (hj : j.toInt = (i : Int)) (hi : i < n) {g : JFrame} (hg : g.method = m) {rest : List Value} (hs : g.stack = .int x :: .int j :: .ref a :: rest) (hd : decode c.code g.pc = .ok (.bastore, 1)) :
    ∃ T' h', Stand p l e R s m args below meth c T' (locs ++ [⟨a, i⟩]) cells slots ∧ T'.heap = h' ∧ Wr h h' a i (.int (nar .byte x)) ∧ AF Z h' a .byte n (fun k => if k = i then .int (nar .byte x) else f k) ∧ ∀ target, Steps p.tables e below (T'.setTop { g with pc := g.pc + 1, stack := rest }) target → Steps p.tables e below (T.setTop g) target := by
  have F' := F
  obtain ⟨cl, A, r, u⟩ := F
  obtain ⟨T', h', X', e', W', st⟩ := RoadKit.stB X hx hZ eT A (own_inb hj hi r) hg hs hd
  rw [own_tn hj] at X' W'
  exact ⟨T', h', X', e', W', F'.set W' hi, st⟩
theorem AF.stC (F : AF Z h a .char n f) (X : Stand p l e R s m args below meth c T locs cells slots) (hx : p.tables.exec = Jvm.exec) (hZ : Z.Warmed39 s.vm) (eT : T.heap = h) {j x : Int32} {i : Nat} (hj : j.toInt = (i : Int)) (hi : i < n) {g : JFrame} (hg : g.method = m) {rest : List Value} (hs : g.stack = .int x :: .int j :: .ref a :: rest) (hd : decode c.code g.pc = .ok (.castore, 1)) :
    ∃ T' h', Stand p l e R s m args below meth c T' (locs ++ [⟨a, i⟩]) cells slots ∧ T'.heap = h' ∧ Wr h h' a i (.int (nar .char x)) ∧ AF Z h' a .char n (fun k => if k = i then .int (nar .char x) else f k) ∧ ∀ target, Steps p.tables e below (T'.setTop { g with pc := g.pc + 1, stack := rest }) target → Steps p.tables e below (T.setTop g) target := by
  have F' := F
  obtain ⟨cl, A, r, u⟩ := F
  obtain ⟨T', h', X', e', W', st⟩ := RoadKit.stC X hx hZ eT A (own_inb hj hi r) hg hs hd
  rw [own_tn hj] at X' W'
  exact ⟨T', h', X', e', W', F'.set W' hi, st⟩
theorem AF.stJ (F : AF Z h a .long n f) (X : Stand p l e R s m args below meth c T locs cells slots) (hx : p.tables.exec = Jvm.exec) (hZ : Z.Warmed39 s.vm) (eT : T.heap = h) {j : Int32} {x : Int64} {i : Nat} (hj : j.toInt = (i : Int)) (hi : i < n) {g : JFrame} (hg : g.method = m) {rest : List Value} (hs : g.stack = .long x :: .int j :: .ref a :: rest) (hd : decode c.code g.pc = .ok (.lastore, 1)) :
    ∃ T' h', Stand p l e R s m args below meth c T' (locs ++ [⟨a, i⟩]) cells slots ∧ T'.heap = h' ∧ Wr h h' a i (.long x) ∧ AF Z h' a .long n (fun k => if k = i then .long x else f k) ∧ ∀ target, Steps p.tables e below (T'.setTop { g with pc := g.pc + 1, stack := rest }) target → Steps p.tables e below (T.setTop g) target := by
  have F' := F
  obtain ⟨cl, A, r, u⟩ := F
  obtain ⟨T', h', X', e', W', st⟩ := RoadKit.stJ X hx hZ eT A (own_inb hj hi r) hg hs hd
  rw [own_tn hj] at X' W'
  exact ⟨T', h', X', e', W', F'.set W' hi, st⟩
end OwnAF
theorem own_lt {x y : Int32} {a b : Nat} (hx : x.toInt = (a : Int)) (hy : y.toInt = (b : Int)) : x < y ↔ a < b := by rw [Int32.lt_iff_toInt_lt, hx, hy]; omega
theorem own_eqn {x y : Int32} {a b : Nat} (hx : x.toInt = (a : Int)) (hy : y.toInt = (b : Int)) : x = y ↔ a = b := by rw [← Int32.toInt_inj, hx, hy]; omega
theorem own_add {x y : Int32} {a b : Nat} (hx : x.toInt = (a : Int)) (hy : y.toInt = (b : Int)) (h : a + b < 2147483648) : (x + y).toInt = ((a + b : Nat) : Int) := by
  have q1 := c_iadd x y
  have q2 := rng32 (x + y)
  omega
theorem own_iremM (x y : Int32) : x - (x / y) * y = x % y := by
  apply Int32.toInt_inj.mp
  have h1 := Int32.le_toInt (x % y)
  have h2 := Int32.toInt_lt (x % y)
  rw [Int32.toInt_sub, Int32.toInt_mul, Int32.toInt_div, Int.bmod_mul_bmod, Int.sub_bmod_bmod, Int.mul_comm (x.toInt.tdiv y.toInt), ← Int.tmod_def, ← Int32.toInt_mod]
  exact Int.bmod_eq_of_le_mul_two (by omega) (by omega)
theorem own_iremV {x y : Int32} {b : Nat} (hx : 0 ≤ x.toInt) (hy : y.toInt = (b : Int)) : (x - (x / y) * y).toInt = x.toInt % (b : Int) := by
  rw [own_iremM]; exact (c_irem x y b hy).1 hx
theorem own_irem {x y : Int32} {b : Nat} (hx : 0 ≤ x.toInt) (hy : y.toInt = (b : Int)) (hb : 0 < b) : ∃ r : Nat, r < b ∧ (x - (x / y) * y).toInt = (r : Int) := by
  have h := own_iremV hx hy
  have h1 := Int.emod_nonneg x.toInt (b := (b : Int)) (by omega)
  have h2 := Int.emod_lt_of_pos x.toInt (b := (b : Int)) (by omega)
  exact ⟨(x.toInt % (b : Int)).toNat, by omega, by omega⟩
theorem own_mask31 (x : Int32) : 0 ≤ (x &&& 2147483647).toInt := by
  have h := c_mask x 2147483647 31 (by decide) (by decide)
  rw [h]; exact Int.emod_nonneg _ (by decide)
theorem own_ne0 {y : Int32} {b : Nat} (hy : y.toInt = (b : Int)) (hb : 0 < b) : y ≠ 0 := fun h => by
  subst h
  have : (0 : Int32).toInt = 0 := rfl
  omega
theorem own_low (x : Int32) : (nar .byte (x.toInt8.toInt32)) &&& 255 = x &&& 255 := by
  apply Int32.toInt_inj.mp
  rw [c_mask _ 255 8 (by decide) (by decide), c_mask x 255 8 (by decide) (by decide)]
  have h1 := c_i2b x
  have h2 := c_i2b (x.toInt8.toInt32)
  have e : ((2 ^ 8 : Nat) : Int) = 256 := rfl
  show (x.toInt8.toInt32.toInt8.toInt32).toInt % ((2 ^ 8 : Nat) : Int) = _
  omega
theorem own_hiL {y : Int32} {n K : Nat} (hy : y.toInt = (n : Int)) (hn : n < 2 ^ K) : ∀ i, K ≤ i → y.toBitVec.getLsbD i = false := by
  intro i hi
  have h1 : y.toBitVec.toNat = n := by
    have h : y.toBitVec.toInt = (n : Int) := hy
    rw [BitVec.toInt_eq_toNat_cond] at h
    have := y.toBitVec.isLt
    split at h <;> omega
  rw [← BitVec.testBit_toNat, h1]
  exact Nat.testBit_lt_two_pow (Nat.lt_of_lt_of_le hn (Nat.pow_le_pow_right (by decide) hi))
theorem own_hi {y : Int32} {n K : Nat} (hy : y.toInt = (n : Int)) (hn : n < 2 ^ K) : ∀ (i : Nat) (h : i < 32), K ≤ i → y.toBitVec[i] = false := fun i h hi => by
  rw [← BitVec.getLsbD_eq_getElem h]; exact own_hiL hy hn i hi
theorem own_msb {y : Int32} {n K : Nat} (hy : y.toInt = (n : Int)) (hn : n < 2 ^ K) (hK : K ≤ 31) : y.toBitVec.msb = false := by
  rw [BitVec.msb_eq_getLsbD_last]; exact own_hiL hy hn 31 hK
theorem own_v2_0 (Y : BitVec 32) (hb : ∀ (i : Nat) (h : i < 32), 11 ≤ i → Y[i] = false) (hm : Y.msb = false) : ((192#32 ||| (Y.sshiftRight 6)) &&& 255#32) &&& 224#32 = 192#32 := by
  apply BitVec.eq_of_getLsbD_eq
  intro i hi
  have q : i = 0 ∨ i = 1 ∨ i = 2 ∨ i = 3 ∨ i = 4 ∨ i = 5 ∨ i = 6 ∨ i = 7 ∨ i = 8 ∨ i = 9 ∨ i = 10 ∨ i = 11 ∨ i = 12 ∨ i = 13 ∨ i = 14 ∨ i = 15 ∨ i = 16 ∨ i = 17 ∨ i = 18 ∨ i = 19 ∨ i = 20 ∨ i = 21 ∨ i = 22 ∨ i = 23 ∨ i = 24 ∨ i = 25 ∨ i = 26 ∨ i = 27 ∨ i = 28 ∨ i = 29 ∨ i = 30 ∨ i = 31 := by omega
  rcases q with rfl | rfl | rfl | rfl | rfl | rfl | rfl | rfl | rfl | rfl | rfl | rfl | rfl | rfl | rfl | rfl | rfl | rfl | rfl | rfl | rfl | rfl | rfl | rfl | rfl | rfl | rfl | rfl | rfl | rfl | rfl | rfl <;> simp [BitVec.getElem_sshiftRight, hb, hm]
theorem own_v2_1 (Y : BitVec 32) (hb : ∀ (i : Nat) (h : i < 32), 11 ≤ i → Y[i] = false) (hm : Y.msb = false) : ((128#32 ||| (Y &&& 63#32)) &&& 255#32) &&& 192#32 = 128#32 := by
  apply BitVec.eq_of_getLsbD_eq
  intro i hi
  have q : i = 0 ∨ i = 1 ∨ i = 2 ∨ i = 3 ∨ i = 4 ∨ i = 5 ∨ i = 6 ∨ i = 7 ∨ i = 8 ∨ i = 9 ∨ i = 10 ∨ i = 11 ∨ i = 12 ∨ i = 13 ∨ i = 14 ∨ i = 15 ∨ i = 16 ∨ i = 17 ∨ i = 18 ∨ i = 19 ∨ i = 20 ∨ i = 21 ∨ i = 22 ∨ i = 23 ∨ i = 24 ∨ i = 25 ∨ i = 26 ∨ i = 27 ∨ i = 28 ∨ i = 29 ∨ i = 30 ∨ i = 31 := by omega
  rcases q with rfl | rfl | rfl | rfl | rfl | rfl | rfl | rfl | rfl | rfl | rfl | rfl | rfl | rfl | rfl | rfl | rfl | rfl | rfl | rfl | rfl | rfl | rfl | rfl | rfl | rfl | rfl | rfl | rfl | rfl | rfl | rfl <;> simp [BitVec.getElem_sshiftRight, hb, hm]
theorem own_v2_s (Y : BitVec 32) (hb : ∀ (i : Nat) (h : i < 32), 11 ≤ i → Y[i] = false) (hm : Y.msb = false) : (((((192#32 ||| (Y.sshiftRight 6)) &&& 255#32) &&& 31#32) <<< 6) ||| (((128#32 ||| (Y &&& 63#32)) &&& 255#32) &&& 63#32)) = Y := by
  apply BitVec.eq_of_getLsbD_eq
  intro i hi
  have q : i = 0 ∨ i = 1 ∨ i = 2 ∨ i = 3 ∨ i = 4 ∨ i = 5 ∨ i = 6 ∨ i = 7 ∨ i = 8 ∨ i = 9 ∨ i = 10 ∨ i = 11 ∨ i = 12 ∨ i = 13 ∨ i = 14 ∨ i = 15 ∨ i = 16 ∨ i = 17 ∨ i = 18 ∨ i = 19 ∨ i = 20 ∨ i = 21 ∨ i = 22 ∨ i = 23 ∨ i = 24 ∨ i = 25 ∨ i = 26 ∨ i = 27 ∨ i = 28 ∨ i = 29 ∨ i = 30 ∨ i = 31 := by omega
  rcases q with rfl | rfl | rfl | rfl | rfl | rfl | rfl | rfl | rfl | rfl | rfl | rfl | rfl | rfl | rfl | rfl | rfl | rfl | rfl | rfl | rfl | rfl | rfl | rfl | rfl | rfl | rfl | rfl | rfl | rfl | rfl | rfl <;> simp [BitVec.getElem_sshiftRight, hb, hm]
theorem own_c2_0 {y : Int32} {n : Nat} (hy : y.toInt = (n : Int)) (hn : n < 2048) : (((192 : Int32) ||| (y >>> ((6 : Int32) &&& 31))) &&& 255) &&& (224 : Int32) = 192 := Int32.toBitVec_inj.mp (own_v2_0 y.toBitVec (own_hi (K := 11) hy (by omega)) (own_msb (K := 11) hy (by omega) (by decide)))
theorem own_c2_1 {y : Int32} {n : Nat} (hy : y.toInt = (n : Int)) (hn : n < 2048) : (((128 : Int32) ||| (y &&& (63 : Int32))) &&& 255) &&& (192 : Int32) = 128 := Int32.toBitVec_inj.mp (own_v2_1 y.toBitVec (own_hi (K := 11) hy (by omega)) (own_msb (K := 11) hy (by omega) (by decide)))
theorem own_c2_s {y : Int32} {n : Nat} (hy : y.toInt = (n : Int)) (hn : n < 2048) : ((((((192 : Int32) ||| (y >>> ((6 : Int32) &&& 31))) &&& 255) &&& (31 : Int32)) <<< ((6 : Int32) &&& 31)) ||| ((((128 : Int32) ||| (y &&& (63 : Int32))) &&& 255) &&& (63 : Int32))) = y := Int32.toBitVec_inj.mp (own_v2_s y.toBitVec (own_hi (K := 11) hy (by omega)) (own_msb (K := 11) hy (by omega) (by decide)))
theorem own_v3_0 (Y : BitVec 32) (hb : ∀ (i : Nat) (h : i < 32), 16 ≤ i → Y[i] = false) (hm : Y.msb = false) : ((224#32 ||| (Y.sshiftRight 12)) &&& 255#32) &&& 240#32 = 224#32 := by
  apply BitVec.eq_of_getLsbD_eq
  intro i hi
  have q : i = 0 ∨ i = 1 ∨ i = 2 ∨ i = 3 ∨ i = 4 ∨ i = 5 ∨ i = 6 ∨ i = 7 ∨ i = 8 ∨ i = 9 ∨ i = 10 ∨ i = 11 ∨ i = 12 ∨ i = 13 ∨ i = 14 ∨ i = 15 ∨ i = 16 ∨ i = 17 ∨ i = 18 ∨ i = 19 ∨ i = 20 ∨ i = 21 ∨ i = 22 ∨ i = 23 ∨ i = 24 ∨ i = 25 ∨ i = 26 ∨ i = 27 ∨ i = 28 ∨ i = 29 ∨ i = 30 ∨ i = 31 := by omega
  rcases q with rfl | rfl | rfl | rfl | rfl | rfl | rfl | rfl | rfl | rfl | rfl | rfl | rfl | rfl | rfl | rfl | rfl | rfl | rfl | rfl | rfl | rfl | rfl | rfl | rfl | rfl | rfl | rfl | rfl | rfl | rfl | rfl <;> simp [BitVec.getElem_sshiftRight, hb, hm]
theorem own_v3_1 (Y : BitVec 32) (hb : ∀ (i : Nat) (h : i < 32), 16 ≤ i → Y[i] = false) (hm : Y.msb = false) : ((128#32 ||| ((Y.sshiftRight 6) &&& 63#32)) &&& 255#32) &&& 192#32 = 128#32 := by
  apply BitVec.eq_of_getLsbD_eq
  intro i hi
  have q : i = 0 ∨ i = 1 ∨ i = 2 ∨ i = 3 ∨ i = 4 ∨ i = 5 ∨ i = 6 ∨ i = 7 ∨ i = 8 ∨ i = 9 ∨ i = 10 ∨ i = 11 ∨ i = 12 ∨ i = 13 ∨ i = 14 ∨ i = 15 ∨ i = 16 ∨ i = 17 ∨ i = 18 ∨ i = 19 ∨ i = 20 ∨ i = 21 ∨ i = 22 ∨ i = 23 ∨ i = 24 ∨ i = 25 ∨ i = 26 ∨ i = 27 ∨ i = 28 ∨ i = 29 ∨ i = 30 ∨ i = 31 := by omega
  rcases q with rfl | rfl | rfl | rfl | rfl | rfl | rfl | rfl | rfl | rfl | rfl | rfl | rfl | rfl | rfl | rfl | rfl | rfl | rfl | rfl | rfl | rfl | rfl | rfl | rfl | rfl | rfl | rfl | rfl | rfl | rfl | rfl <;> simp [BitVec.getElem_sshiftRight, hb, hm]
theorem own_v3_2 (Y : BitVec 32) (hb : ∀ (i : Nat) (h : i < 32), 16 ≤ i → Y[i] = false) (hm : Y.msb = false) : ((128#32 ||| (Y &&& 63#32)) &&& 255#32) &&& 192#32 = 128#32 := by
  apply BitVec.eq_of_getLsbD_eq
  intro i hi
  have q : i = 0 ∨ i = 1 ∨ i = 2 ∨ i = 3 ∨ i = 4 ∨ i = 5 ∨ i = 6 ∨ i = 7 ∨ i = 8 ∨ i = 9 ∨ i = 10 ∨ i = 11 ∨ i = 12 ∨ i = 13 ∨ i = 14 ∨ i = 15 ∨ i = 16 ∨ i = 17 ∨ i = 18 ∨ i = 19 ∨ i = 20 ∨ i = 21 ∨ i = 22 ∨ i = 23 ∨ i = 24 ∨ i = 25 ∨ i = 26 ∨ i = 27 ∨ i = 28 ∨ i = 29 ∨ i = 30 ∨ i = 31 := by omega
  rcases q with rfl | rfl | rfl | rfl | rfl | rfl | rfl | rfl | rfl | rfl | rfl | rfl | rfl | rfl | rfl | rfl | rfl | rfl | rfl | rfl | rfl | rfl | rfl | rfl | rfl | rfl | rfl | rfl | rfl | rfl | rfl | rfl <;> simp [BitVec.getElem_sshiftRight, hb, hm]
theorem own_v3_s (Y : BitVec 32) (hb : ∀ (i : Nat) (h : i < 32), 16 ≤ i → Y[i] = false) (hm : Y.msb = false) : ((((((224#32 ||| (Y.sshiftRight 12)) &&& 255#32) &&& 15#32) <<< 12) ||| ((((128#32 ||| ((Y.sshiftRight 6) &&& 63#32)) &&& 255#32) &&& 63#32) <<< 6)) ||| (((128#32 ||| (Y &&& 63#32)) &&& 255#32) &&& 63#32)) = Y := by
  apply BitVec.eq_of_getLsbD_eq
  intro i hi
  have q : i = 0 ∨ i = 1 ∨ i = 2 ∨ i = 3 ∨ i = 4 ∨ i = 5 ∨ i = 6 ∨ i = 7 ∨ i = 8 ∨ i = 9 ∨ i = 10 ∨ i = 11 ∨ i = 12 ∨ i = 13 ∨ i = 14 ∨ i = 15 ∨ i = 16 ∨ i = 17 ∨ i = 18 ∨ i = 19 ∨ i = 20 ∨ i = 21 ∨ i = 22 ∨ i = 23 ∨ i = 24 ∨ i = 25 ∨ i = 26 ∨ i = 27 ∨ i = 28 ∨ i = 29 ∨ i = 30 ∨ i = 31 := by omega
  rcases q with rfl | rfl | rfl | rfl | rfl | rfl | rfl | rfl | rfl | rfl | rfl | rfl | rfl | rfl | rfl | rfl | rfl | rfl | rfl | rfl | rfl | rfl | rfl | rfl | rfl | rfl | rfl | rfl | rfl | rfl | rfl | rfl <;> simp [BitVec.getElem_sshiftRight, hb, hm]
theorem own_c3_0 {y : Int32} {n : Nat} (hy : y.toInt = (n : Int)) (hn : n < 65536) : (((224 : Int32) ||| (y >>> ((12 : Int32) &&& 31))) &&& 255) &&& (240 : Int32) = 224 := Int32.toBitVec_inj.mp (own_v3_0 y.toBitVec (own_hi (K := 16) hy (by omega)) (own_msb (K := 16) hy (by omega) (by decide)))
theorem own_c3_1 {y : Int32} {n : Nat} (hy : y.toInt = (n : Int)) (hn : n < 65536) : (((128 : Int32) ||| ((y >>> ((6 : Int32) &&& 31)) &&& (63 : Int32))) &&& 255) &&& (192 : Int32) = 128 := Int32.toBitVec_inj.mp (own_v3_1 y.toBitVec (own_hi (K := 16) hy (by omega)) (own_msb (K := 16) hy (by omega) (by decide)))
theorem own_c3_2 {y : Int32} {n : Nat} (hy : y.toInt = (n : Int)) (hn : n < 65536) : (((128 : Int32) ||| (y &&& (63 : Int32))) &&& 255) &&& (192 : Int32) = 128 := Int32.toBitVec_inj.mp (own_v3_2 y.toBitVec (own_hi (K := 16) hy (by omega)) (own_msb (K := 16) hy (by omega) (by decide)))
theorem own_c3_s {y : Int32} {n : Nat} (hy : y.toInt = (n : Int)) (hn : n < 65536) : (((((((224 : Int32) ||| (y >>> ((12 : Int32) &&& 31))) &&& 255) &&& (15 : Int32)) <<< ((12 : Int32) &&& 31)) ||| (((((128 : Int32) ||| ((y >>> ((6 : Int32) &&& 31)) &&& (63 : Int32))) &&& 255) &&& (63 : Int32)) <<< ((6 : Int32) &&& 31))) ||| ((((128 : Int32) ||| (y &&& (63 : Int32))) &&& 255) &&& (63 : Int32))) = y := Int32.toBitVec_inj.mp (own_v3_s y.toBitVec (own_hi (K := 16) hy (by omega)) (own_msb (K := 16) hy (by omega) (by decide)))
theorem own_v4_0 (Y : BitVec 32) (hb : ∀ (i : Nat) (h : i < 32), 21 ≤ i → Y[i] = false) (hm : Y.msb = false) : ((240#32 ||| (Y.sshiftRight 18)) &&& 255#32) &&& 248#32 = 240#32 := by
  apply BitVec.eq_of_getLsbD_eq
  intro i hi
  have q : i = 0 ∨ i = 1 ∨ i = 2 ∨ i = 3 ∨ i = 4 ∨ i = 5 ∨ i = 6 ∨ i = 7 ∨ i = 8 ∨ i = 9 ∨ i = 10 ∨ i = 11 ∨ i = 12 ∨ i = 13 ∨ i = 14 ∨ i = 15 ∨ i = 16 ∨ i = 17 ∨ i = 18 ∨ i = 19 ∨ i = 20 ∨ i = 21 ∨ i = 22 ∨ i = 23 ∨ i = 24 ∨ i = 25 ∨ i = 26 ∨ i = 27 ∨ i = 28 ∨ i = 29 ∨ i = 30 ∨ i = 31 := by omega
  rcases q with rfl | rfl | rfl | rfl | rfl | rfl | rfl | rfl | rfl | rfl | rfl | rfl | rfl | rfl | rfl | rfl | rfl | rfl | rfl | rfl | rfl | rfl | rfl | rfl | rfl | rfl | rfl | rfl | rfl | rfl | rfl | rfl <;> simp [BitVec.getElem_sshiftRight, hb, hm]
theorem own_v4_1 (Y : BitVec 32) (hb : ∀ (i : Nat) (h : i < 32), 21 ≤ i → Y[i] = false) (hm : Y.msb = false) : ((128#32 ||| ((Y.sshiftRight 12) &&& 63#32)) &&& 255#32) &&& 192#32 = 128#32 := by
  apply BitVec.eq_of_getLsbD_eq
  intro i hi
  have q : i = 0 ∨ i = 1 ∨ i = 2 ∨ i = 3 ∨ i = 4 ∨ i = 5 ∨ i = 6 ∨ i = 7 ∨ i = 8 ∨ i = 9 ∨ i = 10 ∨ i = 11 ∨ i = 12 ∨ i = 13 ∨ i = 14 ∨ i = 15 ∨ i = 16 ∨ i = 17 ∨ i = 18 ∨ i = 19 ∨ i = 20 ∨ i = 21 ∨ i = 22 ∨ i = 23 ∨ i = 24 ∨ i = 25 ∨ i = 26 ∨ i = 27 ∨ i = 28 ∨ i = 29 ∨ i = 30 ∨ i = 31 := by omega
  rcases q with rfl | rfl | rfl | rfl | rfl | rfl | rfl | rfl | rfl | rfl | rfl | rfl | rfl | rfl | rfl | rfl | rfl | rfl | rfl | rfl | rfl | rfl | rfl | rfl | rfl | rfl | rfl | rfl | rfl | rfl | rfl | rfl <;> simp [BitVec.getElem_sshiftRight, hb, hm]
theorem own_v4_2 (Y : BitVec 32) (hb : ∀ (i : Nat) (h : i < 32), 21 ≤ i → Y[i] = false) (hm : Y.msb = false) : ((128#32 ||| ((Y.sshiftRight 6) &&& 63#32)) &&& 255#32) &&& 192#32 = 128#32 := by
  apply BitVec.eq_of_getLsbD_eq
  intro i hi
  have q : i = 0 ∨ i = 1 ∨ i = 2 ∨ i = 3 ∨ i = 4 ∨ i = 5 ∨ i = 6 ∨ i = 7 ∨ i = 8 ∨ i = 9 ∨ i = 10 ∨ i = 11 ∨ i = 12 ∨ i = 13 ∨ i = 14 ∨ i = 15 ∨ i = 16 ∨ i = 17 ∨ i = 18 ∨ i = 19 ∨ i = 20 ∨ i = 21 ∨ i = 22 ∨ i = 23 ∨ i = 24 ∨ i = 25 ∨ i = 26 ∨ i = 27 ∨ i = 28 ∨ i = 29 ∨ i = 30 ∨ i = 31 := by omega
  rcases q with rfl | rfl | rfl | rfl | rfl | rfl | rfl | rfl | rfl | rfl | rfl | rfl | rfl | rfl | rfl | rfl | rfl | rfl | rfl | rfl | rfl | rfl | rfl | rfl | rfl | rfl | rfl | rfl | rfl | rfl | rfl | rfl <;> simp [BitVec.getElem_sshiftRight, hb, hm]
theorem own_v4_3 (Y : BitVec 32) (hb : ∀ (i : Nat) (h : i < 32), 21 ≤ i → Y[i] = false) (hm : Y.msb = false) : ((128#32 ||| (Y &&& 63#32)) &&& 255#32) &&& 192#32 = 128#32 := by
  apply BitVec.eq_of_getLsbD_eq
  intro i hi
  have q : i = 0 ∨ i = 1 ∨ i = 2 ∨ i = 3 ∨ i = 4 ∨ i = 5 ∨ i = 6 ∨ i = 7 ∨ i = 8 ∨ i = 9 ∨ i = 10 ∨ i = 11 ∨ i = 12 ∨ i = 13 ∨ i = 14 ∨ i = 15 ∨ i = 16 ∨ i = 17 ∨ i = 18 ∨ i = 19 ∨ i = 20 ∨ i = 21 ∨ i = 22 ∨ i = 23 ∨ i = 24 ∨ i = 25 ∨ i = 26 ∨ i = 27 ∨ i = 28 ∨ i = 29 ∨ i = 30 ∨ i = 31 := by omega
  rcases q with rfl | rfl | rfl | rfl | rfl | rfl | rfl | rfl | rfl | rfl | rfl | rfl | rfl | rfl | rfl | rfl | rfl | rfl | rfl | rfl | rfl | rfl | rfl | rfl | rfl | rfl | rfl | rfl | rfl | rfl | rfl | rfl <;> simp [BitVec.getElem_sshiftRight, hb, hm]
theorem own_v4_s (Y : BitVec 32) (hb : ∀ (i : Nat) (h : i < 32), 21 ≤ i → Y[i] = false) (hm : Y.msb = false) : (((((((240#32 ||| (Y.sshiftRight 18)) &&& 255#32) &&& 7#32) <<< 18) ||| ((((128#32 ||| ((Y.sshiftRight 12) &&& 63#32)) &&& 255#32) &&& 63#32) <<< 12)) ||| ((((128#32 ||| ((Y.sshiftRight 6) &&& 63#32)) &&& 255#32) &&& 63#32) <<< 6)) ||| (((128#32 ||| (Y &&& 63#32)) &&& 255#32) &&& 63#32)) = Y := by
  apply BitVec.eq_of_getLsbD_eq
  intro i hi
  have q : i = 0 ∨ i = 1 ∨ i = 2 ∨ i = 3 ∨ i = 4 ∨ i = 5 ∨ i = 6 ∨ i = 7 ∨ i = 8 ∨ i = 9 ∨ i = 10 ∨ i = 11 ∨ i = 12 ∨ i = 13 ∨ i = 14 ∨ i = 15 ∨ i = 16 ∨ i = 17 ∨ i = 18 ∨ i = 19 ∨ i = 20 ∨ i = 21 ∨ i = 22 ∨ i = 23 ∨ i = 24 ∨ i = 25 ∨ i = 26 ∨ i = 27 ∨ i = 28 ∨ i = 29 ∨ i = 30 ∨ i = 31 := by omega
  rcases q with rfl | rfl | rfl | rfl | rfl | rfl | rfl | rfl | rfl | rfl | rfl | rfl | rfl | rfl | rfl | rfl | rfl | rfl | rfl | rfl | rfl | rfl | rfl | rfl | rfl | rfl | rfl | rfl | rfl | rfl | rfl | rfl <;> simp [BitVec.getElem_sshiftRight, hb, hm]
theorem own_c4_0 {y : Int32} {n : Nat} (hy : y.toInt = (n : Int)) (hn : n < 1114112) : (((240 : Int32) ||| (y >>> ((18 : Int32) &&& 31))) &&& 255) &&& (248 : Int32) = 240 := Int32.toBitVec_inj.mp (own_v4_0 y.toBitVec (own_hi (K := 21) hy (by omega)) (own_msb (K := 21) hy (by omega) (by decide)))
theorem own_c4_1 {y : Int32} {n : Nat} (hy : y.toInt = (n : Int)) (hn : n < 1114112) : (((128 : Int32) ||| ((y >>> ((12 : Int32) &&& 31)) &&& (63 : Int32))) &&& 255) &&& (192 : Int32) = 128 := Int32.toBitVec_inj.mp (own_v4_1 y.toBitVec (own_hi (K := 21) hy (by omega)) (own_msb (K := 21) hy (by omega) (by decide)))
theorem own_c4_2 {y : Int32} {n : Nat} (hy : y.toInt = (n : Int)) (hn : n < 1114112) : (((128 : Int32) ||| ((y >>> ((6 : Int32) &&& 31)) &&& (63 : Int32))) &&& 255) &&& (192 : Int32) = 128 := Int32.toBitVec_inj.mp (own_v4_2 y.toBitVec (own_hi (K := 21) hy (by omega)) (own_msb (K := 21) hy (by omega) (by decide)))
theorem own_c4_3 {y : Int32} {n : Nat} (hy : y.toInt = (n : Int)) (hn : n < 1114112) : (((128 : Int32) ||| (y &&& (63 : Int32))) &&& 255) &&& (192 : Int32) = 128 := Int32.toBitVec_inj.mp (own_v4_3 y.toBitVec (own_hi (K := 21) hy (by omega)) (own_msb (K := 21) hy (by omega) (by decide)))
theorem own_c4_s {y : Int32} {n : Nat} (hy : y.toInt = (n : Int)) (hn : n < 1114112) : ((((((((240 : Int32) ||| (y >>> ((18 : Int32) &&& 31))) &&& 255) &&& (7 : Int32)) <<< ((18 : Int32) &&& 31)) ||| (((((128 : Int32) ||| ((y >>> ((12 : Int32) &&& 31)) &&& (63 : Int32))) &&& 255) &&& (63 : Int32)) <<< ((12 : Int32) &&& 31))) ||| (((((128 : Int32) ||| ((y >>> ((6 : Int32) &&& 31)) &&& (63 : Int32))) &&& 255) &&& (63 : Int32)) <<< ((6 : Int32) &&& 31))) ||| ((((128 : Int32) ||| (y &&& (63 : Int32))) &&& 255) &&& (63 : Int32))) = y := Int32.toBitVec_inj.mp (own_v4_s y.toBitVec (own_hi (K := 21) hy (by omega)) (own_msb (K := 21) hy (by omega) (by decide)))
theorem own_c1 {y : Int32} {n : Nat} (hy : y.toInt = (n : Int)) (hn : n < 128) : y &&& 255 = y := by
  apply Int32.toInt_inj.mp
  rw [c_mask y 255 8 (by decide) (by decide), hy]
  omega
def own_u1 (cd : Int32) (i : Nat) (F : Nat → Int32) (k : Nat) : Int32 := if k = i then nar .byte (cd.toInt8.toInt32) else F k
theorem own_u1_0 (cd : Int32) (i : Nat) (F : Nat → Int32) : own_u1 cd i F (i) = nar .byte (cd.toInt8.toInt32) := by simp [own_u1]
theorem own_u1_o (cd f8 : Int32) (i : Nat) (k : Nat) : (i ≤ k ∧ k < i + 1) ∨ own_u1 cd i (fun _ => f8) k = f8 := by
  by_cases h : i ≤ k ∧ k < i + 1
  · exact Or.inl h
  · right
    simp only [own_u1]
    rw [if_neg (by omega)]
def own_u2 (cd : Int32) (i : Nat) (F : Nat → Int32) (k : Nat) : Int32 := if k = i + 1 then nar .byte (((128 : Int32) ||| (cd &&& (63 : Int32))).toInt8.toInt32) else if k = i then nar .byte (((192 : Int32) ||| (cd >>> ((6 : Int32) &&& 31))).toInt8.toInt32) else F k
theorem own_u2_0 (cd : Int32) (i : Nat) (F : Nat → Int32) : own_u2 cd i F (i) = nar .byte (((192 : Int32) ||| (cd >>> ((6 : Int32) &&& 31))).toInt8.toInt32) := by simp [own_u2]
theorem own_u2_1 (cd : Int32) (i : Nat) (F : Nat → Int32) : own_u2 cd i F (i + 1) = nar .byte (((128 : Int32) ||| (cd &&& (63 : Int32))).toInt8.toInt32) := by simp [own_u2]
theorem own_u2_o (cd f8 : Int32) (i : Nat) (k : Nat) : (i ≤ k ∧ k < i + 2) ∨ own_u2 cd i (fun _ => f8) k = f8 := by
  by_cases h : i ≤ k ∧ k < i + 2
  · exact Or.inl h
  · right
    simp only [own_u2]
    rw [if_neg (by omega), if_neg (by omega)]
def own_u3 (cd : Int32) (i : Nat) (F : Nat → Int32) (k : Nat) : Int32 := if k = i + 2 then nar .byte (((128 : Int32) ||| (cd &&& (63 : Int32))).toInt8.toInt32) else if k = i + 1 then nar .byte (((128 : Int32) ||| ((cd >>> ((6 : Int32) &&& 31)) &&& (63 : Int32))).toInt8.toInt32) else if k = i then nar .byte (((224 : Int32) ||| (cd >>> ((12 : Int32) &&& 31))).toInt8.toInt32) else F k
theorem own_u3_0 (cd : Int32) (i : Nat) (F : Nat → Int32) : own_u3 cd i F (i) = nar .byte (((224 : Int32) ||| (cd >>> ((12 : Int32) &&& 31))).toInt8.toInt32) := by simp [own_u3]
theorem own_u3_1 (cd : Int32) (i : Nat) (F : Nat → Int32) : own_u3 cd i F (i + 1) = nar .byte (((128 : Int32) ||| ((cd >>> ((6 : Int32) &&& 31)) &&& (63 : Int32))).toInt8.toInt32) := by simp [own_u3]
theorem own_u3_2 (cd : Int32) (i : Nat) (F : Nat → Int32) : own_u3 cd i F (i + 2) = nar .byte (((128 : Int32) ||| (cd &&& (63 : Int32))).toInt8.toInt32) := by simp [own_u3]
theorem own_u3_o (cd f8 : Int32) (i : Nat) (k : Nat) : (i ≤ k ∧ k < i + 3) ∨ own_u3 cd i (fun _ => f8) k = f8 := by
  by_cases h : i ≤ k ∧ k < i + 3
  · exact Or.inl h
  · right
    simp only [own_u3]
    rw [if_neg (by omega), if_neg (by omega), if_neg (by omega)]
def own_u4 (cd : Int32) (i : Nat) (F : Nat → Int32) (k : Nat) : Int32 := if k = i + 3 then nar .byte (((128 : Int32) ||| (cd &&& (63 : Int32))).toInt8.toInt32) else if k = i + 2 then nar .byte (((128 : Int32) ||| ((cd >>> ((6 : Int32) &&& 31)) &&& (63 : Int32))).toInt8.toInt32) else if k = i + 1 then nar .byte (((128 : Int32) ||| ((cd >>> ((12 : Int32) &&& 31)) &&& (63 : Int32))).toInt8.toInt32) else if k = i then nar .byte (((240 : Int32) ||| (cd >>> ((18 : Int32) &&& 31))).toInt8.toInt32) else F k
theorem own_u4_0 (cd : Int32) (i : Nat) (F : Nat → Int32) : own_u4 cd i F (i) = nar .byte (((240 : Int32) ||| (cd >>> ((18 : Int32) &&& 31))).toInt8.toInt32) := by simp [own_u4]
theorem own_u4_1 (cd : Int32) (i : Nat) (F : Nat → Int32) : own_u4 cd i F (i + 1) = nar .byte (((128 : Int32) ||| ((cd >>> ((12 : Int32) &&& 31)) &&& (63 : Int32))).toInt8.toInt32) := by simp [own_u4]
theorem own_u4_2 (cd : Int32) (i : Nat) (F : Nat → Int32) : own_u4 cd i F (i + 2) = nar .byte (((128 : Int32) ||| ((cd >>> ((6 : Int32) &&& 31)) &&& (63 : Int32))).toInt8.toInt32) := by simp [own_u4]
theorem own_u4_3 (cd : Int32) (i : Nat) (F : Nat → Int32) : own_u4 cd i F (i + 3) = nar .byte (((128 : Int32) ||| (cd &&& (63 : Int32))).toInt8.toInt32) := by simp [own_u4]
theorem own_u4_o (cd f8 : Int32) (i : Nat) (k : Nat) : (i ≤ k ∧ k < i + 4) ∨ own_u4 cd i (fun _ => f8) k = f8 := by
  by_cases h : i ≤ k ∧ k < i + 4
  · exact Or.inl h
  · right
    simp only [own_u4]
    rw [if_neg (by omega), if_neg (by omega), if_neg (by omega), if_neg (by omega)]
theorem d1_0 : decode prog_125_method_53_code 0 = .ok (.iload_n 0, 1) := by decide +kernel
theorem d1_1 : decode prog_125_method_53_code 1 = .ok (.sipush 128, 3) := by decide +kernel
theorem d1_4 : decode prog_125_method_53_code 4 = .ok (.if_icmp .ge 10, 3) := by decide +kernel
theorem d1_7 : decode prog_125_method_53_code 7 = .ok (.aload_n 1, 1) := by decide +kernel
theorem d1_8 : decode prog_125_method_53_code 8 = .ok (.iload_n 2, 1) := by decide +kernel
theorem d1_9 : decode prog_125_method_53_code 9 = .ok (.iload_n 0, 1) := by decide +kernel
theorem d1_10 : decode prog_125_method_53_code 10 = .ok (.i2b, 1) := by decide +kernel
theorem d1_11 : decode prog_125_method_53_code 11 = .ok (.bastore, 1) := by decide +kernel
theorem d1_12 : decode prog_125_method_53_code 12 = .ok (.iconst 1, 1) := by decide +kernel
theorem d1_13 : decode prog_125_method_53_code 13 = .ok (.ireturn, 1) := by decide +kernel
theorem d1_14 : decode prog_125_method_53_code 14 = .ok (.iload_n 0, 1) := by decide +kernel
theorem d1_15 : decode prog_125_method_53_code 15 = .ok (.sipush 2048, 3) := by decide +kernel
theorem d1_18 : decode prog_125_method_53_code 18 = .ok (.if_icmp .ge 31, 3) := by decide +kernel
theorem d1_21 : decode prog_125_method_53_code 21 = .ok (.aload_n 1, 1) := by decide +kernel
theorem d1_22 : decode prog_125_method_53_code 22 = .ok (.iload_n 2, 1) := by decide +kernel
theorem d1_23 : decode prog_125_method_53_code 23 = .ok (.sipush 192, 3) := by decide +kernel
theorem d1_26 : decode prog_125_method_53_code 26 = .ok (.iload_n 0, 1) := by decide +kernel
theorem d1_27 : decode prog_125_method_53_code 27 = .ok (.bipush 6, 2) := by decide +kernel
theorem d1_29 : decode prog_125_method_53_code 29 = .ok (.ishr, 1) := by decide +kernel
theorem d1_30 : decode prog_125_method_53_code 30 = .ok (.ior, 1) := by decide +kernel
theorem d1_31 : decode prog_125_method_53_code 31 = .ok (.i2b, 1) := by decide +kernel
theorem d1_32 : decode prog_125_method_53_code 32 = .ok (.bastore, 1) := by decide +kernel
theorem d1_33 : decode prog_125_method_53_code 33 = .ok (.aload_n 1, 1) := by decide +kernel
theorem d1_34 : decode prog_125_method_53_code 34 = .ok (.iload_n 2, 1) := by decide +kernel
theorem d1_35 : decode prog_125_method_53_code 35 = .ok (.iconst 1, 1) := by decide +kernel
theorem d1_36 : decode prog_125_method_53_code 36 = .ok (.iadd, 1) := by decide +kernel
theorem d1_37 : decode prog_125_method_53_code 37 = .ok (.sipush 128, 3) := by decide +kernel
theorem d1_40 : decode prog_125_method_53_code 40 = .ok (.iload_n 0, 1) := by decide +kernel
theorem d1_41 : decode prog_125_method_53_code 41 = .ok (.bipush 63, 2) := by decide +kernel
theorem d1_43 : decode prog_125_method_53_code 43 = .ok (.iand, 1) := by decide +kernel
theorem d1_44 : decode prog_125_method_53_code 44 = .ok (.ior, 1) := by decide +kernel
theorem d1_45 : decode prog_125_method_53_code 45 = .ok (.i2b, 1) := by decide +kernel
theorem d1_46 : decode prog_125_method_53_code 46 = .ok (.bastore, 1) := by decide +kernel
theorem d1_47 : decode prog_125_method_53_code 47 = .ok (.iconst 2, 1) := by decide +kernel
theorem d1_48 : decode prog_125_method_53_code 48 = .ok (.ireturn, 1) := by decide +kernel
theorem d1_49 : decode prog_125_method_53_code 49 = .ok (.iload_n 0, 1) := by decide +kernel
theorem d1_50 : decode prog_125_method_53_code 50 = .ok (.ldc_w 531, 3) := by decide +kernel
theorem d1_53 : decode prog_125_method_53_code 53 = .ok (.if_icmp .ge 48, 3) := by decide +kernel
theorem d1_56 : decode prog_125_method_53_code 56 = .ok (.aload_n 1, 1) := by decide +kernel
theorem d1_57 : decode prog_125_method_53_code 57 = .ok (.iload_n 2, 1) := by decide +kernel
theorem d1_58 : decode prog_125_method_53_code 58 = .ok (.sipush 224, 3) := by decide +kernel
theorem d1_61 : decode prog_125_method_53_code 61 = .ok (.iload_n 0, 1) := by decide +kernel
theorem d1_62 : decode prog_125_method_53_code 62 = .ok (.bipush 12, 2) := by decide +kernel
theorem d1_64 : decode prog_125_method_53_code 64 = .ok (.ishr, 1) := by decide +kernel
theorem d1_65 : decode prog_125_method_53_code 65 = .ok (.ior, 1) := by decide +kernel
theorem d1_66 : decode prog_125_method_53_code 66 = .ok (.i2b, 1) := by decide +kernel
theorem d1_67 : decode prog_125_method_53_code 67 = .ok (.bastore, 1) := by decide +kernel
theorem d1_68 : decode prog_125_method_53_code 68 = .ok (.aload_n 1, 1) := by decide +kernel
theorem d1_69 : decode prog_125_method_53_code 69 = .ok (.iload_n 2, 1) := by decide +kernel
theorem d1_70 : decode prog_125_method_53_code 70 = .ok (.iconst 1, 1) := by decide +kernel
theorem d1_71 : decode prog_125_method_53_code 71 = .ok (.iadd, 1) := by decide +kernel
theorem d1_72 : decode prog_125_method_53_code 72 = .ok (.sipush 128, 3) := by decide +kernel
theorem d1_75 : decode prog_125_method_53_code 75 = .ok (.iload_n 0, 1) := by decide +kernel
theorem d1_76 : decode prog_125_method_53_code 76 = .ok (.bipush 6, 2) := by decide +kernel
theorem d1_78 : decode prog_125_method_53_code 78 = .ok (.ishr, 1) := by decide +kernel
theorem d1_79 : decode prog_125_method_53_code 79 = .ok (.bipush 63, 2) := by decide +kernel
theorem d1_81 : decode prog_125_method_53_code 81 = .ok (.iand, 1) := by decide +kernel
theorem d1_82 : decode prog_125_method_53_code 82 = .ok (.ior, 1) := by decide +kernel
theorem d1_83 : decode prog_125_method_53_code 83 = .ok (.i2b, 1) := by decide +kernel
theorem d1_84 : decode prog_125_method_53_code 84 = .ok (.bastore, 1) := by decide +kernel
theorem d1_85 : decode prog_125_method_53_code 85 = .ok (.aload_n 1, 1) := by decide +kernel
theorem d1_86 : decode prog_125_method_53_code 86 = .ok (.iload_n 2, 1) := by decide +kernel
theorem d1_87 : decode prog_125_method_53_code 87 = .ok (.iconst 2, 1) := by decide +kernel
theorem d1_88 : decode prog_125_method_53_code 88 = .ok (.iadd, 1) := by decide +kernel
theorem d1_89 : decode prog_125_method_53_code 89 = .ok (.sipush 128, 3) := by decide +kernel
theorem d1_92 : decode prog_125_method_53_code 92 = .ok (.iload_n 0, 1) := by decide +kernel
theorem d1_93 : decode prog_125_method_53_code 93 = .ok (.bipush 63, 2) := by decide +kernel
theorem d1_95 : decode prog_125_method_53_code 95 = .ok (.iand, 1) := by decide +kernel
theorem d1_96 : decode prog_125_method_53_code 96 = .ok (.ior, 1) := by decide +kernel
theorem d1_97 : decode prog_125_method_53_code 97 = .ok (.i2b, 1) := by decide +kernel
theorem d1_98 : decode prog_125_method_53_code 98 = .ok (.bastore, 1) := by decide +kernel
theorem d1_99 : decode prog_125_method_53_code 99 = .ok (.iconst 3, 1) := by decide +kernel
theorem d1_100 : decode prog_125_method_53_code 100 = .ok (.ireturn, 1) := by decide +kernel
theorem d1_101 : decode prog_125_method_53_code 101 = .ok (.aload_n 1, 1) := by decide +kernel
theorem d1_102 : decode prog_125_method_53_code 102 = .ok (.iload_n 2, 1) := by decide +kernel
theorem d1_103 : decode prog_125_method_53_code 103 = .ok (.sipush 240, 3) := by decide +kernel
theorem d1_106 : decode prog_125_method_53_code 106 = .ok (.iload_n 0, 1) := by decide +kernel
theorem d1_107 : decode prog_125_method_53_code 107 = .ok (.bipush 18, 2) := by decide +kernel
theorem d1_109 : decode prog_125_method_53_code 109 = .ok (.ishr, 1) := by decide +kernel
theorem d1_110 : decode prog_125_method_53_code 110 = .ok (.ior, 1) := by decide +kernel
theorem d1_111 : decode prog_125_method_53_code 111 = .ok (.i2b, 1) := by decide +kernel
theorem d1_112 : decode prog_125_method_53_code 112 = .ok (.bastore, 1) := by decide +kernel
theorem d1_113 : decode prog_125_method_53_code 113 = .ok (.aload_n 1, 1) := by decide +kernel
theorem d1_114 : decode prog_125_method_53_code 114 = .ok (.iload_n 2, 1) := by decide +kernel
theorem d1_115 : decode prog_125_method_53_code 115 = .ok (.iconst 1, 1) := by decide +kernel
theorem d1_116 : decode prog_125_method_53_code 116 = .ok (.iadd, 1) := by decide +kernel
theorem d1_117 : decode prog_125_method_53_code 117 = .ok (.sipush 128, 3) := by decide +kernel
theorem d1_120 : decode prog_125_method_53_code 120 = .ok (.iload_n 0, 1) := by decide +kernel
theorem d1_121 : decode prog_125_method_53_code 121 = .ok (.bipush 12, 2) := by decide +kernel
theorem d1_123 : decode prog_125_method_53_code 123 = .ok (.ishr, 1) := by decide +kernel
theorem d1_124 : decode prog_125_method_53_code 124 = .ok (.bipush 63, 2) := by decide +kernel
theorem d1_126 : decode prog_125_method_53_code 126 = .ok (.iand, 1) := by decide +kernel
theorem d1_127 : decode prog_125_method_53_code 127 = .ok (.ior, 1) := by decide +kernel
theorem d1_128 : decode prog_125_method_53_code 128 = .ok (.i2b, 1) := by decide +kernel
theorem d1_129 : decode prog_125_method_53_code 129 = .ok (.bastore, 1) := by decide +kernel
theorem d1_130 : decode prog_125_method_53_code 130 = .ok (.aload_n 1, 1) := by decide +kernel
theorem d1_131 : decode prog_125_method_53_code 131 = .ok (.iload_n 2, 1) := by decide +kernel
theorem d1_132 : decode prog_125_method_53_code 132 = .ok (.iconst 2, 1) := by decide +kernel
theorem d1_133 : decode prog_125_method_53_code 133 = .ok (.iadd, 1) := by decide +kernel
theorem d1_134 : decode prog_125_method_53_code 134 = .ok (.sipush 128, 3) := by decide +kernel
theorem d1_137 : decode prog_125_method_53_code 137 = .ok (.iload_n 0, 1) := by decide +kernel
theorem d1_138 : decode prog_125_method_53_code 138 = .ok (.bipush 6, 2) := by decide +kernel
theorem d1_140 : decode prog_125_method_53_code 140 = .ok (.ishr, 1) := by decide +kernel
theorem d1_141 : decode prog_125_method_53_code 141 = .ok (.bipush 63, 2) := by decide +kernel
theorem d1_143 : decode prog_125_method_53_code 143 = .ok (.iand, 1) := by decide +kernel
theorem d1_144 : decode prog_125_method_53_code 144 = .ok (.ior, 1) := by decide +kernel
theorem d1_145 : decode prog_125_method_53_code 145 = .ok (.i2b, 1) := by decide +kernel
theorem d1_146 : decode prog_125_method_53_code 146 = .ok (.bastore, 1) := by decide +kernel
theorem d1_147 : decode prog_125_method_53_code 147 = .ok (.aload_n 1, 1) := by decide +kernel
theorem d1_148 : decode prog_125_method_53_code 148 = .ok (.iload_n 2, 1) := by decide +kernel
theorem d1_149 : decode prog_125_method_53_code 149 = .ok (.iconst 3, 1) := by decide +kernel
theorem d1_150 : decode prog_125_method_53_code 150 = .ok (.iadd, 1) := by decide +kernel
theorem d1_151 : decode prog_125_method_53_code 151 = .ok (.sipush 128, 3) := by decide +kernel
theorem d1_154 : decode prog_125_method_53_code 154 = .ok (.iload_n 0, 1) := by decide +kernel
theorem d1_155 : decode prog_125_method_53_code 155 = .ok (.bipush 63, 2) := by decide +kernel
theorem d1_157 : decode prog_125_method_53_code 157 = .ok (.iand, 1) := by decide +kernel
theorem d1_158 : decode prog_125_method_53_code 158 = .ok (.ior, 1) := by decide +kernel
theorem d1_159 : decode prog_125_method_53_code 159 = .ok (.i2b, 1) := by decide +kernel
theorem d1_160 : decode prog_125_method_53_code 160 = .ok (.bastore, 1) := by decide +kernel
theorem d1_161 : decode prog_125_method_53_code 161 = .ok (.iconst 4, 1) := by decide +kernel
theorem d1_162 : decode prog_125_method_53_code 162 = .ok (.ireturn, 1) := by decide +kernel
theorem pn_1 : plainName "com/example/belge/belge/XmlScanner" = true := by first | (simp [plainName, overriddenIn]; done) | decide +kernel
theorem ef_1x1 (m : MethodId) (x0 : Int32) (x1 : Addr) (x2 : Int32) : entryFrame m #[(.int x0), (.ref x1), (.int x2)] 3 = mkF m 0 #[iv x0, rv x1, iv x2] [] := by first | (simp [entryFrame, mkF, argsToLocals, Value.category]; done) | rfl
def Q1x1 (Z : State) (cd : Int32) (b : Addr) (atv : Int32) (cn : Nat) (i : Nat) (F : Nat → Int32) (h0 : Heap) (n0 : Nat) (v : Option Value) (h : Heap) (L : List Loc) : Prop := v = some (.int 1) ∧ Fr n0 L ∧ Keep h0 h [b] ∧ AF Z h b .byte 8 (fun k => .int (own_u1 cd i F k))
set_option maxRecDepth 65536 in
set_option maxHeartbeats 40000000 in
theorem rm1x1 (l : Launch) (Z : State) (a0 : Array Value) (hw : ∀ d ∈ tables_1, d.before a0 Z = true) (ws : List Jvm.Cond) (cd : Int32) (b : Addr) (atv : Int32) (cn : Nat) (i : Nat) (F : Nat → Int32) (h0 : Heap) (n0 : Nat) (Z0 : n0 ≤ h0.size) (V_b : AF Z h0 b .byte 8 (fun k => .int (F k))) (g_b : n0 ≤ b) (hcd : cd.toInt = (cn : Int)) (hat : atv.toInt = (i : Int)) (hi : i ≤ 3) (hr : cn < 128) :
    MetFree l (⟨"com/example/belge/belge/XmlScanner", "utf8", "(I[BI)I"⟩ : MethodName) (head1 (Jvm.Cond.code (⟨"com/example/belge/belge/XmlScanner", "utf8", "(I[BI)I"⟩ : MethodName) prog_125_method_53_code 3 (some .int) :: ws) ({ frames := 0, cells := 0, slots := 0, locals := 0 } : Room)) (fun a U => a = #[(.int cd), (.ref b), (.int atv)] ∧ Z.Warmed39 U.vm ∧ U.heap = h0) (fun _ _ _ _ _ => True) (fun _ U o U' => ∃ v L, o = .returned v ∧ Q1x1 Z cd b atv cn i F h0 n0 v U'.heap L ∧ FrameEnd U o U' L ({ frames := 0, cells := 0, slots := 0, locals := 0 } : Room).cells ({ frames := 0, cells := 0, slots := 0, locals := 0 } : Room).slots) := by
  refine MetFree.of_bodySF (plainFor_of_name pn_1) hisR ?_
  intro p e s m args below meth c s₁ Bd hml0 hP hK
  obtain ⟨rfl, hZ, hh⟩ := hP
  have hx := Bd.exec
  have hby := Bd.bytes
  have hml : c.maxLocals = 3 := hml0
  have hown : s.vm.findClass "com/example/belge/belge/XmlScanner" = some m.cls := findClass_of_methodNamed Bd.named
  have hnm := (name_of_methodNamed Bd.named Bd.method).1
  have X0 : Stand p l e ({ frames := 0, cells := 0, slots := 0, locals := 0 } : Room) s m #[(.int cd), (.ref b), (.int atv)] below meth c s₁ [] 0 0 := Stand.of_body Bd
  have e0 : s₁.heap = h0 := by rw [← hh, Bd.state]; rfl
  have N0 := Fr.nil n0
  show Ends p.tables e below (fun (s₂ : State) (o : Outcome) => ∃ v L, o = .returned v ∧ (Q1x1 Z cd b atv cn i F h0 n0) v s₂.heap L ∧ FrameEnd s o s₂ L ({ frames := 0, cells := 0, slots := 0, locals := 0 } : Room).cells ({ frames := 0, cells := 0, slots := 0, locals := 0 } : Room).slots) (s₁.setTop (entryFrame m #[(.int cd), (.ref b), (.int atv)] 3))
  refine Ends.any fun G hG => ?_
  refine Ends.go (fun t k => castTop (ef_1x1 m cd b atv) k) ?_
  show Ends p.tables e below G (s₁.setTop (mkF m 0 #[iv cd, rv b, iv atv] []))
  have K0 := Keep.refl h0 [b]
  refine Ends.go (fun _ => XS.iloadN X0.here hx rfl (hb hby d1_0) rfl) ?_
  show Ends p.tables e below G (s₁.setTop (mkF m 1 #[iv cd, rv b, iv atv] [(.int cd)]))
  refine Ends.go (fun _ => XS.sipush X0.here hx rfl (hb hby d1_1)) ?_
  show Ends p.tables e below G (s₁.setTop (mkF m 4 #[iv cd, rv b, iv atv] [(.int (128 : Int32)), (.int cd)]))
  refine Ends.go (fun _ => XS.icmpNo X0.here hx rfl (hb hby d1_4) rfl (tlt ((own_lt hcd (b := 128) rfl).mpr (by omega) : cd < (128 : Int32))).2.1) ?_
  show Ends p.tables e below G (s₁.setTop (mkF m 7 #[iv cd, rv b, iv atv] []))
  refine Ends.go (fun _ => XS.aloadN X0.here hx rfl (hb hby d1_7) rfl rfl) ?_
  show Ends p.tables e below G (s₁.setTop (mkF m 8 #[iv cd, rv b, iv atv] [(.ref b)]))
  refine Ends.go (fun _ => XS.iloadN X0.here hx rfl (hb hby d1_8) rfl) ?_
  show Ends p.tables e below G (s₁.setTop (mkF m 9 #[iv cd, rv b, iv atv] [(.int atv), (.ref b)]))
  refine Ends.go (fun _ => XS.iloadN X0.here hx rfl (hb hby d1_9) rfl) ?_
  show Ends p.tables e below G (s₁.setTop (mkF m 10 #[iv cd, rv b, iv atv] [(.int cd), (.int atv), (.ref b)]))
  refine Ends.go (fun _ => XS.i2b X0.here hx rfl (hb hby d1_10) rfl) ?_
  show Ends p.tables e below G (s₁.setTop (mkF m 11 #[iv cd, rv b, iv atv] [(.int (cd.toInt8.toInt32)), (.int atv), (.ref b)]))
  obtain ⟨T1, h1, X1, e1, W1, V1, st1⟩ := AF.stB V_b X0 hx hZ e0 (j := atv) (i := i) hat (by omega) (g := (mkF m 11 #[iv cd, rv b, iv atv] [(.int (cd.toInt8.toInt32)), (.int atv), (.ref b)])) rfl rfl (hb hby d1_11)
  have sz1 := Nat.le_trans Z0 (Nat.le_of_eq W1.size.symm)
  have K1 := Keep.wr K0 W1 (Or.inl (List.mem_of_getElem? (i := 0) rfl))
  have N1 := Fr.snoc X1 N0 g_b
  refine Ends.go (fun _ => st1 _) ?_
  show Ends p.tables e below G (T1.setTop (mkF m 12 #[iv cd, rv b, iv atv] []))
  refine Ends.go (fun _ => XS.iconst X1.here hx rfl (hb hby d1_12)) ?_
  show Ends p.tables e below G (T1.setTop (mkF m 13 #[iv cd, rv b, iv atv] [(.int (1 : Int32))]))
  refine own_finI X1 hx Bd.returns Bd.notSynchronized (hb hby d1_13) (Q := (Q1x1 Z cd b atv cn i F h0 n0)) hG (by decide) (by decide) ?_
  show (Q1x1 Z cd b atv cn i F h0 n0) _ T1.heap _
  rw [e1]
  exact ⟨rfl, N1, K1, AF.congr V1 (fun j hj => by by_cases g0 : j = i <;> simp [own_u1, g0])⟩
theorem ef_1x2 (m : MethodId) (x0 : Int32) (x1 : Addr) (x2 : Int32) : entryFrame m #[(.int x0), (.ref x1), (.int x2)] 3 = mkF m 0 #[iv x0, rv x1, iv x2] [] := by first | (simp [entryFrame, mkF, argsToLocals, Value.category]; done) | rfl
def Q1x2 (Z : State) (cd : Int32) (b : Addr) (atv : Int32) (cn : Nat) (i : Nat) (F : Nat → Int32) (h0 : Heap) (n0 : Nat) (v : Option Value) (h : Heap) (L : List Loc) : Prop := v = some (.int 2) ∧ Fr n0 L ∧ Keep h0 h [b] ∧ AF Z h b .byte 8 (fun k => .int (own_u2 cd i F k))
set_option maxRecDepth 65536 in
set_option maxHeartbeats 40000000 in
theorem rm1x2 (l : Launch) (Z : State) (a0 : Array Value) (hw : ∀ d ∈ tables_1, d.before a0 Z = true) (ws : List Jvm.Cond) (cd : Int32) (b : Addr) (atv : Int32) (cn : Nat) (i : Nat) (F : Nat → Int32) (h0 : Heap) (n0 : Nat) (Z0 : n0 ≤ h0.size) (V_b : AF Z h0 b .byte 8 (fun k => .int (F k))) (g_b : n0 ≤ b) (hcd : cd.toInt = (cn : Int)) (hat : atv.toInt = (i : Int)) (hi : i ≤ 3) (hr : 128 ≤ cn ∧ cn < 2048) :
    MetFree l (⟨"com/example/belge/belge/XmlScanner", "utf8", "(I[BI)I"⟩ : MethodName) (head1 (Jvm.Cond.code (⟨"com/example/belge/belge/XmlScanner", "utf8", "(I[BI)I"⟩ : MethodName) prog_125_method_53_code 3 (some .int) :: ws) ({ frames := 0, cells := 0, slots := 0, locals := 0 } : Room)) (fun a U => a = #[(.int cd), (.ref b), (.int atv)] ∧ Z.Warmed39 U.vm ∧ U.heap = h0) (fun _ _ _ _ _ => True) (fun _ U o U' => ∃ v L, o = .returned v ∧ Q1x2 Z cd b atv cn i F h0 n0 v U'.heap L ∧ FrameEnd U o U' L ({ frames := 0, cells := 0, slots := 0, locals := 0 } : Room).cells ({ frames := 0, cells := 0, slots := 0, locals := 0 } : Room).slots) := by
  refine MetFree.of_bodySF (plainFor_of_name pn_1) hisR ?_
  intro p e s m args below meth c s₁ Bd hml0 hP hK
  obtain ⟨rfl, hZ, hh⟩ := hP
  have hx := Bd.exec
  have hby := Bd.bytes
  have hml : c.maxLocals = 3 := hml0
  have hown : s.vm.findClass "com/example/belge/belge/XmlScanner" = some m.cls := findClass_of_methodNamed Bd.named
  have hnm := (name_of_methodNamed Bd.named Bd.method).1
  have X0 : Stand p l e ({ frames := 0, cells := 0, slots := 0, locals := 0 } : Room) s m #[(.int cd), (.ref b), (.int atv)] below meth c s₁ [] 0 0 := Stand.of_body Bd
  have e0 : s₁.heap = h0 := by rw [← hh, Bd.state]; rfl
  have N0 := Fr.nil n0
  show Ends p.tables e below (fun (s₂ : State) (o : Outcome) => ∃ v L, o = .returned v ∧ (Q1x2 Z cd b atv cn i F h0 n0) v s₂.heap L ∧ FrameEnd s o s₂ L ({ frames := 0, cells := 0, slots := 0, locals := 0 } : Room).cells ({ frames := 0, cells := 0, slots := 0, locals := 0 } : Room).slots) (s₁.setTop (entryFrame m #[(.int cd), (.ref b), (.int atv)] 3))
  refine Ends.any fun G hG => ?_
  refine Ends.go (fun t k => castTop (ef_1x2 m cd b atv) k) ?_
  show Ends p.tables e below G (s₁.setTop (mkF m 0 #[iv cd, rv b, iv atv] []))
  have K0 := Keep.refl h0 [b]
  refine Ends.go (fun _ => XS.iloadN X0.here hx rfl (hb hby d1_0) rfl) ?_
  show Ends p.tables e below G (s₁.setTop (mkF m 1 #[iv cd, rv b, iv atv] [(.int cd)]))
  refine Ends.go (fun _ => XS.sipush X0.here hx rfl (hb hby d1_1)) ?_
  show Ends p.tables e below G (s₁.setTop (mkF m 4 #[iv cd, rv b, iv atv] [(.int (128 : Int32)), (.int cd)]))
  refine Ends.go (fun _ => XS.icmpYes X0.here hx rfl (pc0 := 4) (pc' := 14) rfl (hb hby d1_4) rfl (flt (fun z => absurd ((own_lt hcd (b := 128) rfl).mp z) (by omega) : ¬ (cd < (128 : Int32)))).2.1 (by decide) (by decide)) ?_
  show Ends p.tables e below G (s₁.setTop (mkF m 14 #[iv cd, rv b, iv atv] []))
  refine Ends.go (fun _ => XS.iloadN X0.here hx rfl (hb hby d1_14) rfl) ?_
  show Ends p.tables e below G (s₁.setTop (mkF m 15 #[iv cd, rv b, iv atv] [(.int cd)]))
  refine Ends.go (fun _ => XS.sipush X0.here hx rfl (hb hby d1_15)) ?_
  show Ends p.tables e below G (s₁.setTop (mkF m 18 #[iv cd, rv b, iv atv] [(.int (2048 : Int32)), (.int cd)]))
  refine Ends.go (fun _ => XS.icmpNo X0.here hx rfl (hb hby d1_18) rfl (tlt ((own_lt hcd (b := 2048) rfl).mpr (by omega) : cd < (2048 : Int32))).2.1) ?_
  show Ends p.tables e below G (s₁.setTop (mkF m 21 #[iv cd, rv b, iv atv] []))
  refine Ends.go (fun _ => XS.aloadN X0.here hx rfl (hb hby d1_21) rfl rfl) ?_
  show Ends p.tables e below G (s₁.setTop (mkF m 22 #[iv cd, rv b, iv atv] [(.ref b)]))
  refine Ends.go (fun _ => XS.iloadN X0.here hx rfl (hb hby d1_22) rfl) ?_
  show Ends p.tables e below G (s₁.setTop (mkF m 23 #[iv cd, rv b, iv atv] [(.int atv), (.ref b)]))
  refine Ends.go (fun _ => XS.sipush X0.here hx rfl (hb hby d1_23)) ?_
  show Ends p.tables e below G (s₁.setTop (mkF m 26 #[iv cd, rv b, iv atv] [(.int (192 : Int32)), (.int atv), (.ref b)]))
  refine Ends.go (fun _ => XS.iloadN X0.here hx rfl (hb hby d1_26) rfl) ?_
  show Ends p.tables e below G (s₁.setTop (mkF m 27 #[iv cd, rv b, iv atv] [(.int cd), (.int (192 : Int32)), (.int atv), (.ref b)]))
  refine Ends.go (fun _ => XS.bipush X0.here hx rfl (hb hby d1_27)) ?_
  show Ends p.tables e below G (s₁.setTop (mkF m 29 #[iv cd, rv b, iv atv] [(.int (6 : Int32)), (.int cd), (.int (192 : Int32)), (.int atv), (.ref b)]))
  refine Ends.go (fun _ => XS.ishr X0.here hx rfl (hb hby d1_29) rfl) ?_
  show Ends p.tables e below G (s₁.setTop (mkF m 30 #[iv cd, rv b, iv atv] [(.int (cd >>> ((6 : Int32) &&& 31))), (.int (192 : Int32)), (.int atv), (.ref b)]))
  refine Ends.go (fun _ => XS.ior X0.here hx rfl (hb hby d1_30) rfl) ?_
  show Ends p.tables e below G (s₁.setTop (mkF m 31 #[iv cd, rv b, iv atv] [(.int ((192 : Int32) ||| (cd >>> ((6 : Int32) &&& 31)))), (.int atv), (.ref b)]))
  refine Ends.go (fun _ => XS.i2b X0.here hx rfl (hb hby d1_31) rfl) ?_
  show Ends p.tables e below G (s₁.setTop (mkF m 32 #[iv cd, rv b, iv atv] [(.int (((192 : Int32) ||| (cd >>> ((6 : Int32) &&& 31))).toInt8.toInt32)), (.int atv), (.ref b)]))
  obtain ⟨T1, h1, X1, e1, W1, V1, st1⟩ := AF.stB V_b X0 hx hZ e0 (j := atv) (i := i) hat (by omega) (g := (mkF m 32 #[iv cd, rv b, iv atv] [(.int (((192 : Int32) ||| (cd >>> ((6 : Int32) &&& 31))).toInt8.toInt32)), (.int atv), (.ref b)])) rfl rfl (hb hby d1_32)
  have sz1 := Nat.le_trans Z0 (Nat.le_of_eq W1.size.symm)
  have K1 := Keep.wr K0 W1 (Or.inl (List.mem_of_getElem? (i := 0) rfl))
  have N1 := Fr.snoc X1 N0 g_b
  refine Ends.go (fun _ => st1 _) ?_
  show Ends p.tables e below G (T1.setTop (mkF m 33 #[iv cd, rv b, iv atv] []))
  refine Ends.go (fun _ => XS.aloadN X1.here hx rfl (hb hby d1_33) rfl rfl) ?_
  show Ends p.tables e below G (T1.setTop (mkF m 34 #[iv cd, rv b, iv atv] [(.ref b)]))
  refine Ends.go (fun _ => XS.iloadN X1.here hx rfl (hb hby d1_34) rfl) ?_
  show Ends p.tables e below G (T1.setTop (mkF m 35 #[iv cd, rv b, iv atv] [(.int atv), (.ref b)]))
  refine Ends.go (fun _ => XS.iconst X1.here hx rfl (hb hby d1_35)) ?_
  show Ends p.tables e below G (T1.setTop (mkF m 36 #[iv cd, rv b, iv atv] [(.int (1 : Int32)), (.int atv), (.ref b)]))
  refine Ends.go (fun _ => XS.iadd X1.here hx rfl (hb hby d1_36) rfl) ?_
  show Ends p.tables e below G (T1.setTop (mkF m 37 #[iv cd, rv b, iv atv] [(.int (atv + (1 : Int32))), (.ref b)]))
  refine Ends.go (fun _ => XS.sipush X1.here hx rfl (hb hby d1_37)) ?_
  show Ends p.tables e below G (T1.setTop (mkF m 40 #[iv cd, rv b, iv atv] [(.int (128 : Int32)), (.int (atv + (1 : Int32))), (.ref b)]))
  refine Ends.go (fun _ => XS.iloadN X1.here hx rfl (hb hby d1_40) rfl) ?_
  show Ends p.tables e below G (T1.setTop (mkF m 41 #[iv cd, rv b, iv atv] [(.int cd), (.int (128 : Int32)), (.int (atv + (1 : Int32))), (.ref b)]))
  refine Ends.go (fun _ => XS.bipush X1.here hx rfl (hb hby d1_41)) ?_
  show Ends p.tables e below G (T1.setTop (mkF m 43 #[iv cd, rv b, iv atv] [(.int (63 : Int32)), (.int cd), (.int (128 : Int32)), (.int (atv + (1 : Int32))), (.ref b)]))
  refine Ends.go (fun _ => XS.iand X1.here hx rfl (hb hby d1_43) rfl) ?_
  show Ends p.tables e below G (T1.setTop (mkF m 44 #[iv cd, rv b, iv atv] [(.int (cd &&& (63 : Int32))), (.int (128 : Int32)), (.int (atv + (1 : Int32))), (.ref b)]))
  refine Ends.go (fun _ => XS.ior X1.here hx rfl (hb hby d1_44) rfl) ?_
  show Ends p.tables e below G (T1.setTop (mkF m 45 #[iv cd, rv b, iv atv] [(.int ((128 : Int32) ||| (cd &&& (63 : Int32)))), (.int (atv + (1 : Int32))), (.ref b)]))
  refine Ends.go (fun _ => XS.i2b X1.here hx rfl (hb hby d1_45) rfl) ?_
  show Ends p.tables e below G (T1.setTop (mkF m 46 #[iv cd, rv b, iv atv] [(.int (((128 : Int32) ||| (cd &&& (63 : Int32))).toInt8.toInt32)), (.int (atv + (1 : Int32))), (.ref b)]))
  obtain ⟨T2, h2, X2, e2, W2, V2, st2⟩ := AF.stB V1 X1 hx hZ e1 (j := (atv + (1 : Int32))) (i := (i + 1)) (own_add hat (b := 1) rfl (by omega)) (by omega) (g := (mkF m 46 #[iv cd, rv b, iv atv] [(.int (((128 : Int32) ||| (cd &&& (63 : Int32))).toInt8.toInt32)), (.int (atv + (1 : Int32))), (.ref b)])) rfl rfl (hb hby d1_46)
  have sz2 := Nat.le_trans sz1 (Nat.le_of_eq W2.size.symm)
  have K2 := Keep.wr K1 W2 (Or.inl (List.mem_of_getElem? (i := 0) rfl))
  have N2 := Fr.snoc X2 N1 g_b
  refine Ends.go (fun _ => st2 _) ?_
  show Ends p.tables e below G (T2.setTop (mkF m 47 #[iv cd, rv b, iv atv] []))
  refine Ends.go (fun _ => XS.iconst X2.here hx rfl (hb hby d1_47)) ?_
  show Ends p.tables e below G (T2.setTop (mkF m 48 #[iv cd, rv b, iv atv] [(.int (2 : Int32))]))
  refine own_finI X2 hx Bd.returns Bd.notSynchronized (hb hby d1_48) (Q := (Q1x2 Z cd b atv cn i F h0 n0)) hG (by decide) (by decide) ?_
  show (Q1x2 Z cd b atv cn i F h0 n0) _ T2.heap _
  rw [e2]
  exact ⟨rfl, N2, K2, AF.congr V2 (fun j hj => by by_cases g0 : j = i <;> by_cases g1 : j = i + 1 <;> simp [own_u2, g0, g1])⟩
theorem ef_1x3 (m : MethodId) (x0 : Int32) (x1 : Addr) (x2 : Int32) : entryFrame m #[(.int x0), (.ref x1), (.int x2)] 3 = mkF m 0 #[iv x0, rv x1, iv x2] [] := by first | (simp [entryFrame, mkF, argsToLocals, Value.category]; done) | rfl
def Q1x3 (Z : State) (cd : Int32) (b : Addr) (atv : Int32) (cn : Nat) (i : Nat) (F : Nat → Int32) (h0 : Heap) (n0 : Nat) (v : Option Value) (h : Heap) (L : List Loc) : Prop := v = some (.int 3) ∧ Fr n0 L ∧ Keep h0 h [b] ∧ AF Z h b .byte 8 (fun k => .int (own_u3 cd i F k))
set_option maxRecDepth 65536 in
set_option maxHeartbeats 40000000 in
theorem rm1x3 (l : Launch) (Z : State) (a0 : Array Value) (hw : ∀ d ∈ tables_1, d.before a0 Z = true) (ws : List Jvm.Cond) (cd : Int32) (b : Addr) (atv : Int32) (cn : Nat) (i : Nat) (F : Nat → Int32) (h0 : Heap) (n0 : Nat) (Z0 : n0 ≤ h0.size) (V_b : AF Z h0 b .byte 8 (fun k => .int (F k))) (g_b : n0 ≤ b) (hcd : cd.toInt = (cn : Int)) (hat : atv.toInt = (i : Int)) (hi : i ≤ 3) (hr : 2048 ≤ cn ∧ cn < 65536) :
    MetFree l (⟨"com/example/belge/belge/XmlScanner", "utf8", "(I[BI)I"⟩ : MethodName) (head1 (Jvm.Cond.code (⟨"com/example/belge/belge/XmlScanner", "utf8", "(I[BI)I"⟩ : MethodName) prog_125_method_53_code 3 (some .int) :: ws) ({ frames := 0, cells := 0, slots := 0, locals := 0 } : Room)) (fun a U => a = #[(.int cd), (.ref b), (.int atv)] ∧ Z.Warmed39 U.vm ∧ U.heap = h0) (fun _ _ _ _ _ => True) (fun _ U o U' => ∃ v L, o = .returned v ∧ Q1x3 Z cd b atv cn i F h0 n0 v U'.heap L ∧ FrameEnd U o U' L ({ frames := 0, cells := 0, slots := 0, locals := 0 } : Room).cells ({ frames := 0, cells := 0, slots := 0, locals := 0 } : Room).slots) := by
  refine MetFree.of_bodySF (plainFor_of_name pn_1) hisR ?_
  intro p e s m args below meth c s₁ Bd hml0 hP hK
  obtain ⟨rfl, hZ, hh⟩ := hP
  have hx := Bd.exec
  have hby := Bd.bytes
  have hml : c.maxLocals = 3 := hml0
  have hown : s.vm.findClass "com/example/belge/belge/XmlScanner" = some m.cls := findClass_of_methodNamed Bd.named
  have hnm := (name_of_methodNamed Bd.named Bd.method).1
  have X0 : Stand p l e ({ frames := 0, cells := 0, slots := 0, locals := 0 } : Room) s m #[(.int cd), (.ref b), (.int atv)] below meth c s₁ [] 0 0 := Stand.of_body Bd
  have e0 : s₁.heap = h0 := by rw [← hh, Bd.state]; rfl
  have N0 := Fr.nil n0
  show Ends p.tables e below (fun (s₂ : State) (o : Outcome) => ∃ v L, o = .returned v ∧ (Q1x3 Z cd b atv cn i F h0 n0) v s₂.heap L ∧ FrameEnd s o s₂ L ({ frames := 0, cells := 0, slots := 0, locals := 0 } : Room).cells ({ frames := 0, cells := 0, slots := 0, locals := 0 } : Room).slots) (s₁.setTop (entryFrame m #[(.int cd), (.ref b), (.int atv)] 3))
  refine Ends.any fun G hG => ?_
  refine Ends.go (fun t k => castTop (ef_1x3 m cd b atv) k) ?_
  show Ends p.tables e below G (s₁.setTop (mkF m 0 #[iv cd, rv b, iv atv] []))
  have K0 := Keep.refl h0 [b]
  refine Ends.go (fun _ => XS.iloadN X0.here hx rfl (hb hby d1_0) rfl) ?_
  show Ends p.tables e below G (s₁.setTop (mkF m 1 #[iv cd, rv b, iv atv] [(.int cd)]))
  refine Ends.go (fun _ => XS.sipush X0.here hx rfl (hb hby d1_1)) ?_
  show Ends p.tables e below G (s₁.setTop (mkF m 4 #[iv cd, rv b, iv atv] [(.int (128 : Int32)), (.int cd)]))
  refine Ends.go (fun _ => XS.icmpYes X0.here hx rfl (pc0 := 4) (pc' := 14) rfl (hb hby d1_4) rfl (flt (fun z => absurd ((own_lt hcd (b := 128) rfl).mp z) (by omega) : ¬ (cd < (128 : Int32)))).2.1 (by decide) (by decide)) ?_
  show Ends p.tables e below G (s₁.setTop (mkF m 14 #[iv cd, rv b, iv atv] []))
  refine Ends.go (fun _ => XS.iloadN X0.here hx rfl (hb hby d1_14) rfl) ?_
  show Ends p.tables e below G (s₁.setTop (mkF m 15 #[iv cd, rv b, iv atv] [(.int cd)]))
  refine Ends.go (fun _ => XS.sipush X0.here hx rfl (hb hby d1_15)) ?_
  show Ends p.tables e below G (s₁.setTop (mkF m 18 #[iv cd, rv b, iv atv] [(.int (2048 : Int32)), (.int cd)]))
  refine Ends.go (fun _ => XS.icmpYes X0.here hx rfl (pc0 := 18) (pc' := 49) rfl (hb hby d1_18) rfl (flt (fun z => absurd ((own_lt hcd (b := 2048) rfl).mp z) (by omega) : ¬ (cd < (2048 : Int32)))).2.1 (by decide) (by decide)) ?_
  show Ends p.tables e below G (s₁.setTop (mkF m 49 #[iv cd, rv b, iv atv] []))
  refine Ends.go (fun _ => XS.iloadN X0.here hx rfl (hb hby d1_49) rfl) ?_
  show Ends p.tables e below G (s₁.setTop (mkF m 50 #[iv cd, rv b, iv atv] [(.int cd)]))
  refine Ends.go (fun _ => X0.ldcwInt hx hown (mvT hZ (hw _ (List.mem_of_getElem? (i := 11) rfl))) (g := (mkF m 50 #[iv cd, rv b, iv atv] [(.int cd)])) rfl (hb hby d1_50) _) ?_
  show Ends p.tables e below G (s₁.setTop (mkF m 53 #[iv cd, rv b, iv atv] [(.int (65536 : Int32)), (.int cd)]))
  refine Ends.go (fun _ => XS.icmpNo X0.here hx rfl (hb hby d1_53) rfl (tlt ((own_lt hcd (b := 65536) rfl).mpr (by omega) : cd < (65536 : Int32))).2.1) ?_
  show Ends p.tables e below G (s₁.setTop (mkF m 56 #[iv cd, rv b, iv atv] []))
  refine Ends.go (fun _ => XS.aloadN X0.here hx rfl (hb hby d1_56) rfl rfl) ?_
  show Ends p.tables e below G (s₁.setTop (mkF m 57 #[iv cd, rv b, iv atv] [(.ref b)]))
  refine Ends.go (fun _ => XS.iloadN X0.here hx rfl (hb hby d1_57) rfl) ?_
  show Ends p.tables e below G (s₁.setTop (mkF m 58 #[iv cd, rv b, iv atv] [(.int atv), (.ref b)]))
  refine Ends.go (fun _ => XS.sipush X0.here hx rfl (hb hby d1_58)) ?_
  show Ends p.tables e below G (s₁.setTop (mkF m 61 #[iv cd, rv b, iv atv] [(.int (224 : Int32)), (.int atv), (.ref b)]))
  refine Ends.go (fun _ => XS.iloadN X0.here hx rfl (hb hby d1_61) rfl) ?_
  show Ends p.tables e below G (s₁.setTop (mkF m 62 #[iv cd, rv b, iv atv] [(.int cd), (.int (224 : Int32)), (.int atv), (.ref b)]))
  refine Ends.go (fun _ => XS.bipush X0.here hx rfl (hb hby d1_62)) ?_
  show Ends p.tables e below G (s₁.setTop (mkF m 64 #[iv cd, rv b, iv atv] [(.int (12 : Int32)), (.int cd), (.int (224 : Int32)), (.int atv), (.ref b)]))
  refine Ends.go (fun _ => XS.ishr X0.here hx rfl (hb hby d1_64) rfl) ?_
  show Ends p.tables e below G (s₁.setTop (mkF m 65 #[iv cd, rv b, iv atv] [(.int (cd >>> ((12 : Int32) &&& 31))), (.int (224 : Int32)), (.int atv), (.ref b)]))
  refine Ends.go (fun _ => XS.ior X0.here hx rfl (hb hby d1_65) rfl) ?_
  show Ends p.tables e below G (s₁.setTop (mkF m 66 #[iv cd, rv b, iv atv] [(.int ((224 : Int32) ||| (cd >>> ((12 : Int32) &&& 31)))), (.int atv), (.ref b)]))
  refine Ends.go (fun _ => XS.i2b X0.here hx rfl (hb hby d1_66) rfl) ?_
  show Ends p.tables e below G (s₁.setTop (mkF m 67 #[iv cd, rv b, iv atv] [(.int (((224 : Int32) ||| (cd >>> ((12 : Int32) &&& 31))).toInt8.toInt32)), (.int atv), (.ref b)]))
  obtain ⟨T1, h1, X1, e1, W1, V1, st1⟩ := AF.stB V_b X0 hx hZ e0 (j := atv) (i := i) hat (by omega) (g := (mkF m 67 #[iv cd, rv b, iv atv] [(.int (((224 : Int32) ||| (cd >>> ((12 : Int32) &&& 31))).toInt8.toInt32)), (.int atv), (.ref b)])) rfl rfl (hb hby d1_67)
  have sz1 := Nat.le_trans Z0 (Nat.le_of_eq W1.size.symm)
  have K1 := Keep.wr K0 W1 (Or.inl (List.mem_of_getElem? (i := 0) rfl))
  have N1 := Fr.snoc X1 N0 g_b
  refine Ends.go (fun _ => st1 _) ?_
  show Ends p.tables e below G (T1.setTop (mkF m 68 #[iv cd, rv b, iv atv] []))
  refine Ends.go (fun _ => XS.aloadN X1.here hx rfl (hb hby d1_68) rfl rfl) ?_
  show Ends p.tables e below G (T1.setTop (mkF m 69 #[iv cd, rv b, iv atv] [(.ref b)]))
  refine Ends.go (fun _ => XS.iloadN X1.here hx rfl (hb hby d1_69) rfl) ?_
  show Ends p.tables e below G (T1.setTop (mkF m 70 #[iv cd, rv b, iv atv] [(.int atv), (.ref b)]))
  refine Ends.go (fun _ => XS.iconst X1.here hx rfl (hb hby d1_70)) ?_
  show Ends p.tables e below G (T1.setTop (mkF m 71 #[iv cd, rv b, iv atv] [(.int (1 : Int32)), (.int atv), (.ref b)]))
  refine Ends.go (fun _ => XS.iadd X1.here hx rfl (hb hby d1_71) rfl) ?_
  show Ends p.tables e below G (T1.setTop (mkF m 72 #[iv cd, rv b, iv atv] [(.int (atv + (1 : Int32))), (.ref b)]))
  refine Ends.go (fun _ => XS.sipush X1.here hx rfl (hb hby d1_72)) ?_
  show Ends p.tables e below G (T1.setTop (mkF m 75 #[iv cd, rv b, iv atv] [(.int (128 : Int32)), (.int (atv + (1 : Int32))), (.ref b)]))
  refine Ends.go (fun _ => XS.iloadN X1.here hx rfl (hb hby d1_75) rfl) ?_
  show Ends p.tables e below G (T1.setTop (mkF m 76 #[iv cd, rv b, iv atv] [(.int cd), (.int (128 : Int32)), (.int (atv + (1 : Int32))), (.ref b)]))
  refine Ends.go (fun _ => XS.bipush X1.here hx rfl (hb hby d1_76)) ?_
  show Ends p.tables e below G (T1.setTop (mkF m 78 #[iv cd, rv b, iv atv] [(.int (6 : Int32)), (.int cd), (.int (128 : Int32)), (.int (atv + (1 : Int32))), (.ref b)]))
  refine Ends.go (fun _ => XS.ishr X1.here hx rfl (hb hby d1_78) rfl) ?_
  show Ends p.tables e below G (T1.setTop (mkF m 79 #[iv cd, rv b, iv atv] [(.int (cd >>> ((6 : Int32) &&& 31))), (.int (128 : Int32)), (.int (atv + (1 : Int32))), (.ref b)]))
  refine Ends.go (fun _ => XS.bipush X1.here hx rfl (hb hby d1_79)) ?_
  show Ends p.tables e below G (T1.setTop (mkF m 81 #[iv cd, rv b, iv atv] [(.int (63 : Int32)), (.int (cd >>> ((6 : Int32) &&& 31))), (.int (128 : Int32)), (.int (atv + (1 : Int32))), (.ref b)]))
  refine Ends.go (fun _ => XS.iand X1.here hx rfl (hb hby d1_81) rfl) ?_
  show Ends p.tables e below G (T1.setTop (mkF m 82 #[iv cd, rv b, iv atv] [(.int ((cd >>> ((6 : Int32) &&& 31)) &&& (63 : Int32))), (.int (128 : Int32)), (.int (atv + (1 : Int32))), (.ref b)]))
  refine Ends.go (fun _ => XS.ior X1.here hx rfl (hb hby d1_82) rfl) ?_
  show Ends p.tables e below G (T1.setTop (mkF m 83 #[iv cd, rv b, iv atv] [(.int ((128 : Int32) ||| ((cd >>> ((6 : Int32) &&& 31)) &&& (63 : Int32)))), (.int (atv + (1 : Int32))), (.ref b)]))
  refine Ends.go (fun _ => XS.i2b X1.here hx rfl (hb hby d1_83) rfl) ?_
  show Ends p.tables e below G (T1.setTop (mkF m 84 #[iv cd, rv b, iv atv] [(.int (((128 : Int32) ||| ((cd >>> ((6 : Int32) &&& 31)) &&& (63 : Int32))).toInt8.toInt32)), (.int (atv + (1 : Int32))), (.ref b)]))
  obtain ⟨T2, h2, X2, e2, W2, V2, st2⟩ := AF.stB V1 X1 hx hZ e1 (j := (atv + (1 : Int32))) (i := (i + 1)) (own_add hat (b := 1) rfl (by omega)) (by omega) (g := (mkF m 84 #[iv cd, rv b, iv atv] [(.int (((128 : Int32) ||| ((cd >>> ((6 : Int32) &&& 31)) &&& (63 : Int32))).toInt8.toInt32)), (.int (atv + (1 : Int32))), (.ref b)])) rfl rfl (hb hby d1_84)
  have sz2 := Nat.le_trans sz1 (Nat.le_of_eq W2.size.symm)
  have K2 := Keep.wr K1 W2 (Or.inl (List.mem_of_getElem? (i := 0) rfl))
  have N2 := Fr.snoc X2 N1 g_b
  refine Ends.go (fun _ => st2 _) ?_
  show Ends p.tables e below G (T2.setTop (mkF m 85 #[iv cd, rv b, iv atv] []))
  refine Ends.go (fun _ => XS.aloadN X2.here hx rfl (hb hby d1_85) rfl rfl) ?_
  show Ends p.tables e below G (T2.setTop (mkF m 86 #[iv cd, rv b, iv atv] [(.ref b)]))
  refine Ends.go (fun _ => XS.iloadN X2.here hx rfl (hb hby d1_86) rfl) ?_
  show Ends p.tables e below G (T2.setTop (mkF m 87 #[iv cd, rv b, iv atv] [(.int atv), (.ref b)]))
  refine Ends.go (fun _ => XS.iconst X2.here hx rfl (hb hby d1_87)) ?_
  show Ends p.tables e below G (T2.setTop (mkF m 88 #[iv cd, rv b, iv atv] [(.int (2 : Int32)), (.int atv), (.ref b)]))
  refine Ends.go (fun _ => XS.iadd X2.here hx rfl (hb hby d1_88) rfl) ?_
  show Ends p.tables e below G (T2.setTop (mkF m 89 #[iv cd, rv b, iv atv] [(.int (atv + (2 : Int32))), (.ref b)]))
  refine Ends.go (fun _ => XS.sipush X2.here hx rfl (hb hby d1_89)) ?_
  show Ends p.tables e below G (T2.setTop (mkF m 92 #[iv cd, rv b, iv atv] [(.int (128 : Int32)), (.int (atv + (2 : Int32))), (.ref b)]))
  refine Ends.go (fun _ => XS.iloadN X2.here hx rfl (hb hby d1_92) rfl) ?_
  show Ends p.tables e below G (T2.setTop (mkF m 93 #[iv cd, rv b, iv atv] [(.int cd), (.int (128 : Int32)), (.int (atv + (2 : Int32))), (.ref b)]))
  refine Ends.go (fun _ => XS.bipush X2.here hx rfl (hb hby d1_93)) ?_
  show Ends p.tables e below G (T2.setTop (mkF m 95 #[iv cd, rv b, iv atv] [(.int (63 : Int32)), (.int cd), (.int (128 : Int32)), (.int (atv + (2 : Int32))), (.ref b)]))
  refine Ends.go (fun _ => XS.iand X2.here hx rfl (hb hby d1_95) rfl) ?_
  show Ends p.tables e below G (T2.setTop (mkF m 96 #[iv cd, rv b, iv atv] [(.int (cd &&& (63 : Int32))), (.int (128 : Int32)), (.int (atv + (2 : Int32))), (.ref b)]))
  refine Ends.go (fun _ => XS.ior X2.here hx rfl (hb hby d1_96) rfl) ?_
  show Ends p.tables e below G (T2.setTop (mkF m 97 #[iv cd, rv b, iv atv] [(.int ((128 : Int32) ||| (cd &&& (63 : Int32)))), (.int (atv + (2 : Int32))), (.ref b)]))
  refine Ends.go (fun _ => XS.i2b X2.here hx rfl (hb hby d1_97) rfl) ?_
  show Ends p.tables e below G (T2.setTop (mkF m 98 #[iv cd, rv b, iv atv] [(.int (((128 : Int32) ||| (cd &&& (63 : Int32))).toInt8.toInt32)), (.int (atv + (2 : Int32))), (.ref b)]))
  obtain ⟨T3, h3, X3, e3, W3, V3, st3⟩ := AF.stB V2 X2 hx hZ e2 (j := (atv + (2 : Int32))) (i := (i + 2)) (own_add hat (b := 2) rfl (by omega)) (by omega) (g := (mkF m 98 #[iv cd, rv b, iv atv] [(.int (((128 : Int32) ||| (cd &&& (63 : Int32))).toInt8.toInt32)), (.int (atv + (2 : Int32))), (.ref b)])) rfl rfl (hb hby d1_98)
  have sz3 := Nat.le_trans sz2 (Nat.le_of_eq W3.size.symm)
  have K3 := Keep.wr K2 W3 (Or.inl (List.mem_of_getElem? (i := 0) rfl))
  have N3 := Fr.snoc X3 N2 g_b
  refine Ends.go (fun _ => st3 _) ?_
  show Ends p.tables e below G (T3.setTop (mkF m 99 #[iv cd, rv b, iv atv] []))
  refine Ends.go (fun _ => XS.iconst X3.here hx rfl (hb hby d1_99)) ?_
  show Ends p.tables e below G (T3.setTop (mkF m 100 #[iv cd, rv b, iv atv] [(.int (3 : Int32))]))
  refine own_finI X3 hx Bd.returns Bd.notSynchronized (hb hby d1_100) (Q := (Q1x3 Z cd b atv cn i F h0 n0)) hG (by decide) (by decide) ?_
  show (Q1x3 Z cd b atv cn i F h0 n0) _ T3.heap _
  rw [e3]
  exact ⟨rfl, N3, K3, AF.congr V3 (fun j hj => by by_cases g0 : j = i <;> by_cases g1 : j = i + 1 <;> by_cases g2 : j = i + 2 <;> simp [own_u3, g0, g1, g2])⟩
theorem ef_1x4 (m : MethodId) (x0 : Int32) (x1 : Addr) (x2 : Int32) : entryFrame m #[(.int x0), (.ref x1), (.int x2)] 3 = mkF m 0 #[iv x0, rv x1, iv x2] [] := by first | (simp [entryFrame, mkF, argsToLocals, Value.category]; done) | rfl
def Q1x4 (Z : State) (cd : Int32) (b : Addr) (atv : Int32) (cn : Nat) (i : Nat) (F : Nat → Int32) (h0 : Heap) (n0 : Nat) (v : Option Value) (h : Heap) (L : List Loc) : Prop := v = some (.int 4) ∧ Fr n0 L ∧ Keep h0 h [b] ∧ AF Z h b .byte 8 (fun k => .int (own_u4 cd i F k))
set_option maxRecDepth 65536 in
set_option maxHeartbeats 40000000 in
theorem rm1x4 (l : Launch) (Z : State) (a0 : Array Value) (hw : ∀ d ∈ tables_1, d.before a0 Z = true) (ws : List Jvm.Cond) (cd : Int32) (b : Addr) (atv : Int32) (cn : Nat) (i : Nat) (F : Nat → Int32) (h0 : Heap) (n0 : Nat) (Z0 : n0 ≤ h0.size) (V_b : AF Z h0 b .byte 8 (fun k => .int (F k))) (g_b : n0 ≤ b) (hcd : cd.toInt = (cn : Int)) (hat : atv.toInt = (i : Int)) (hi : i ≤ 3) (hr : 65536 ≤ cn ∧ cn < 1114112) :
    MetFree l (⟨"com/example/belge/belge/XmlScanner", "utf8", "(I[BI)I"⟩ : MethodName) (head1 (Jvm.Cond.code (⟨"com/example/belge/belge/XmlScanner", "utf8", "(I[BI)I"⟩ : MethodName) prog_125_method_53_code 3 (some .int) :: ws) ({ frames := 0, cells := 0, slots := 0, locals := 0 } : Room)) (fun a U => a = #[(.int cd), (.ref b), (.int atv)] ∧ Z.Warmed39 U.vm ∧ U.heap = h0) (fun _ _ _ _ _ => True) (fun _ U o U' => ∃ v L, o = .returned v ∧ Q1x4 Z cd b atv cn i F h0 n0 v U'.heap L ∧ FrameEnd U o U' L ({ frames := 0, cells := 0, slots := 0, locals := 0 } : Room).cells ({ frames := 0, cells := 0, slots := 0, locals := 0 } : Room).slots) := by
  refine MetFree.of_bodySF (plainFor_of_name pn_1) hisR ?_
  intro p e s m args below meth c s₁ Bd hml0 hP hK
  obtain ⟨rfl, hZ, hh⟩ := hP
  have hx := Bd.exec
  have hby := Bd.bytes
  have hml : c.maxLocals = 3 := hml0
  have hown : s.vm.findClass "com/example/belge/belge/XmlScanner" = some m.cls := findClass_of_methodNamed Bd.named
  have hnm := (name_of_methodNamed Bd.named Bd.method).1
  have X0 : Stand p l e ({ frames := 0, cells := 0, slots := 0, locals := 0 } : Room) s m #[(.int cd), (.ref b), (.int atv)] below meth c s₁ [] 0 0 := Stand.of_body Bd
  have e0 : s₁.heap = h0 := by rw [← hh, Bd.state]; rfl
  have N0 := Fr.nil n0
  show Ends p.tables e below (fun (s₂ : State) (o : Outcome) => ∃ v L, o = .returned v ∧ (Q1x4 Z cd b atv cn i F h0 n0) v s₂.heap L ∧ FrameEnd s o s₂ L ({ frames := 0, cells := 0, slots := 0, locals := 0 } : Room).cells ({ frames := 0, cells := 0, slots := 0, locals := 0 } : Room).slots) (s₁.setTop (entryFrame m #[(.int cd), (.ref b), (.int atv)] 3))
  refine Ends.any fun G hG => ?_
  refine Ends.go (fun t k => castTop (ef_1x4 m cd b atv) k) ?_
  show Ends p.tables e below G (s₁.setTop (mkF m 0 #[iv cd, rv b, iv atv] []))
  have K0 := Keep.refl h0 [b]
  refine Ends.go (fun _ => XS.iloadN X0.here hx rfl (hb hby d1_0) rfl) ?_
  show Ends p.tables e below G (s₁.setTop (mkF m 1 #[iv cd, rv b, iv atv] [(.int cd)]))
  refine Ends.go (fun _ => XS.sipush X0.here hx rfl (hb hby d1_1)) ?_
  show Ends p.tables e below G (s₁.setTop (mkF m 4 #[iv cd, rv b, iv atv] [(.int (128 : Int32)), (.int cd)]))
  refine Ends.go (fun _ => XS.icmpYes X0.here hx rfl (pc0 := 4) (pc' := 14) rfl (hb hby d1_4) rfl (flt (fun z => absurd ((own_lt hcd (b := 128) rfl).mp z) (by omega) : ¬ (cd < (128 : Int32)))).2.1 (by decide) (by decide)) ?_
  show Ends p.tables e below G (s₁.setTop (mkF m 14 #[iv cd, rv b, iv atv] []))
  refine Ends.go (fun _ => XS.iloadN X0.here hx rfl (hb hby d1_14) rfl) ?_
  show Ends p.tables e below G (s₁.setTop (mkF m 15 #[iv cd, rv b, iv atv] [(.int cd)]))
  refine Ends.go (fun _ => XS.sipush X0.here hx rfl (hb hby d1_15)) ?_
  show Ends p.tables e below G (s₁.setTop (mkF m 18 #[iv cd, rv b, iv atv] [(.int (2048 : Int32)), (.int cd)]))
  refine Ends.go (fun _ => XS.icmpYes X0.here hx rfl (pc0 := 18) (pc' := 49) rfl (hb hby d1_18) rfl (flt (fun z => absurd ((own_lt hcd (b := 2048) rfl).mp z) (by omega) : ¬ (cd < (2048 : Int32)))).2.1 (by decide) (by decide)) ?_
  show Ends p.tables e below G (s₁.setTop (mkF m 49 #[iv cd, rv b, iv atv] []))
  refine Ends.go (fun _ => XS.iloadN X0.here hx rfl (hb hby d1_49) rfl) ?_
  show Ends p.tables e below G (s₁.setTop (mkF m 50 #[iv cd, rv b, iv atv] [(.int cd)]))
  refine Ends.go (fun _ => X0.ldcwInt hx hown (mvT hZ (hw _ (List.mem_of_getElem? (i := 11) rfl))) (g := (mkF m 50 #[iv cd, rv b, iv atv] [(.int cd)])) rfl (hb hby d1_50) _) ?_
  show Ends p.tables e below G (s₁.setTop (mkF m 53 #[iv cd, rv b, iv atv] [(.int (65536 : Int32)), (.int cd)]))
  refine Ends.go (fun _ => XS.icmpYes X0.here hx rfl (pc0 := 53) (pc' := 101) rfl (hb hby d1_53) rfl (flt (fun z => absurd ((own_lt hcd (b := 65536) rfl).mp z) (by omega) : ¬ (cd < (65536 : Int32)))).2.1 (by decide) (by decide)) ?_
  show Ends p.tables e below G (s₁.setTop (mkF m 101 #[iv cd, rv b, iv atv] []))
  refine Ends.go (fun _ => XS.aloadN X0.here hx rfl (hb hby d1_101) rfl rfl) ?_
  show Ends p.tables e below G (s₁.setTop (mkF m 102 #[iv cd, rv b, iv atv] [(.ref b)]))
  refine Ends.go (fun _ => XS.iloadN X0.here hx rfl (hb hby d1_102) rfl) ?_
  show Ends p.tables e below G (s₁.setTop (mkF m 103 #[iv cd, rv b, iv atv] [(.int atv), (.ref b)]))
  refine Ends.go (fun _ => XS.sipush X0.here hx rfl (hb hby d1_103)) ?_
  show Ends p.tables e below G (s₁.setTop (mkF m 106 #[iv cd, rv b, iv atv] [(.int (240 : Int32)), (.int atv), (.ref b)]))
  refine Ends.go (fun _ => XS.iloadN X0.here hx rfl (hb hby d1_106) rfl) ?_
  show Ends p.tables e below G (s₁.setTop (mkF m 107 #[iv cd, rv b, iv atv] [(.int cd), (.int (240 : Int32)), (.int atv), (.ref b)]))
  refine Ends.go (fun _ => XS.bipush X0.here hx rfl (hb hby d1_107)) ?_
  show Ends p.tables e below G (s₁.setTop (mkF m 109 #[iv cd, rv b, iv atv] [(.int (18 : Int32)), (.int cd), (.int (240 : Int32)), (.int atv), (.ref b)]))
  refine Ends.go (fun _ => XS.ishr X0.here hx rfl (hb hby d1_109) rfl) ?_
  show Ends p.tables e below G (s₁.setTop (mkF m 110 #[iv cd, rv b, iv atv] [(.int (cd >>> ((18 : Int32) &&& 31))), (.int (240 : Int32)), (.int atv), (.ref b)]))
  refine Ends.go (fun _ => XS.ior X0.here hx rfl (hb hby d1_110) rfl) ?_
  show Ends p.tables e below G (s₁.setTop (mkF m 111 #[iv cd, rv b, iv atv] [(.int ((240 : Int32) ||| (cd >>> ((18 : Int32) &&& 31)))), (.int atv), (.ref b)]))
  refine Ends.go (fun _ => XS.i2b X0.here hx rfl (hb hby d1_111) rfl) ?_
  show Ends p.tables e below G (s₁.setTop (mkF m 112 #[iv cd, rv b, iv atv] [(.int (((240 : Int32) ||| (cd >>> ((18 : Int32) &&& 31))).toInt8.toInt32)), (.int atv), (.ref b)]))
  obtain ⟨T1, h1, X1, e1, W1, V1, st1⟩ := AF.stB V_b X0 hx hZ e0 (j := atv) (i := i) hat (by omega) (g := (mkF m 112 #[iv cd, rv b, iv atv] [(.int (((240 : Int32) ||| (cd >>> ((18 : Int32) &&& 31))).toInt8.toInt32)), (.int atv), (.ref b)])) rfl rfl (hb hby d1_112)
  have sz1 := Nat.le_trans Z0 (Nat.le_of_eq W1.size.symm)
  have K1 := Keep.wr K0 W1 (Or.inl (List.mem_of_getElem? (i := 0) rfl))
  have N1 := Fr.snoc X1 N0 g_b
  refine Ends.go (fun _ => st1 _) ?_
  show Ends p.tables e below G (T1.setTop (mkF m 113 #[iv cd, rv b, iv atv] []))
  refine Ends.go (fun _ => XS.aloadN X1.here hx rfl (hb hby d1_113) rfl rfl) ?_
  show Ends p.tables e below G (T1.setTop (mkF m 114 #[iv cd, rv b, iv atv] [(.ref b)]))
  refine Ends.go (fun _ => XS.iloadN X1.here hx rfl (hb hby d1_114) rfl) ?_
  show Ends p.tables e below G (T1.setTop (mkF m 115 #[iv cd, rv b, iv atv] [(.int atv), (.ref b)]))
  refine Ends.go (fun _ => XS.iconst X1.here hx rfl (hb hby d1_115)) ?_
  show Ends p.tables e below G (T1.setTop (mkF m 116 #[iv cd, rv b, iv atv] [(.int (1 : Int32)), (.int atv), (.ref b)]))
  refine Ends.go (fun _ => XS.iadd X1.here hx rfl (hb hby d1_116) rfl) ?_
  show Ends p.tables e below G (T1.setTop (mkF m 117 #[iv cd, rv b, iv atv] [(.int (atv + (1 : Int32))), (.ref b)]))
  refine Ends.go (fun _ => XS.sipush X1.here hx rfl (hb hby d1_117)) ?_
  show Ends p.tables e below G (T1.setTop (mkF m 120 #[iv cd, rv b, iv atv] [(.int (128 : Int32)), (.int (atv + (1 : Int32))), (.ref b)]))
  refine Ends.go (fun _ => XS.iloadN X1.here hx rfl (hb hby d1_120) rfl) ?_
  show Ends p.tables e below G (T1.setTop (mkF m 121 #[iv cd, rv b, iv atv] [(.int cd), (.int (128 : Int32)), (.int (atv + (1 : Int32))), (.ref b)]))
  refine Ends.go (fun _ => XS.bipush X1.here hx rfl (hb hby d1_121)) ?_
  show Ends p.tables e below G (T1.setTop (mkF m 123 #[iv cd, rv b, iv atv] [(.int (12 : Int32)), (.int cd), (.int (128 : Int32)), (.int (atv + (1 : Int32))), (.ref b)]))
  refine Ends.go (fun _ => XS.ishr X1.here hx rfl (hb hby d1_123) rfl) ?_
  show Ends p.tables e below G (T1.setTop (mkF m 124 #[iv cd, rv b, iv atv] [(.int (cd >>> ((12 : Int32) &&& 31))), (.int (128 : Int32)), (.int (atv + (1 : Int32))), (.ref b)]))
  refine Ends.go (fun _ => XS.bipush X1.here hx rfl (hb hby d1_124)) ?_
  show Ends p.tables e below G (T1.setTop (mkF m 126 #[iv cd, rv b, iv atv] [(.int (63 : Int32)), (.int (cd >>> ((12 : Int32) &&& 31))), (.int (128 : Int32)), (.int (atv + (1 : Int32))), (.ref b)]))
  refine Ends.go (fun _ => XS.iand X1.here hx rfl (hb hby d1_126) rfl) ?_
  show Ends p.tables e below G (T1.setTop (mkF m 127 #[iv cd, rv b, iv atv] [(.int ((cd >>> ((12 : Int32) &&& 31)) &&& (63 : Int32))), (.int (128 : Int32)), (.int (atv + (1 : Int32))), (.ref b)]))
  refine Ends.go (fun _ => XS.ior X1.here hx rfl (hb hby d1_127) rfl) ?_
  show Ends p.tables e below G (T1.setTop (mkF m 128 #[iv cd, rv b, iv atv] [(.int ((128 : Int32) ||| ((cd >>> ((12 : Int32) &&& 31)) &&& (63 : Int32)))), (.int (atv + (1 : Int32))), (.ref b)]))
  refine Ends.go (fun _ => XS.i2b X1.here hx rfl (hb hby d1_128) rfl) ?_
  show Ends p.tables e below G (T1.setTop (mkF m 129 #[iv cd, rv b, iv atv] [(.int (((128 : Int32) ||| ((cd >>> ((12 : Int32) &&& 31)) &&& (63 : Int32))).toInt8.toInt32)), (.int (atv + (1 : Int32))), (.ref b)]))
  obtain ⟨T2, h2, X2, e2, W2, V2, st2⟩ := AF.stB V1 X1 hx hZ e1 (j := (atv + (1 : Int32))) (i := (i + 1)) (own_add hat (b := 1) rfl (by omega)) (by omega) (g := (mkF m 129 #[iv cd, rv b, iv atv] [(.int (((128 : Int32) ||| ((cd >>> ((12 : Int32) &&& 31)) &&& (63 : Int32))).toInt8.toInt32)), (.int (atv + (1 : Int32))), (.ref b)])) rfl rfl (hb hby d1_129)
  have sz2 := Nat.le_trans sz1 (Nat.le_of_eq W2.size.symm)
  have K2 := Keep.wr K1 W2 (Or.inl (List.mem_of_getElem? (i := 0) rfl))
  have N2 := Fr.snoc X2 N1 g_b
  refine Ends.go (fun _ => st2 _) ?_
  show Ends p.tables e below G (T2.setTop (mkF m 130 #[iv cd, rv b, iv atv] []))
  refine Ends.go (fun _ => XS.aloadN X2.here hx rfl (hb hby d1_130) rfl rfl) ?_
  show Ends p.tables e below G (T2.setTop (mkF m 131 #[iv cd, rv b, iv atv] [(.ref b)]))
  refine Ends.go (fun _ => XS.iloadN X2.here hx rfl (hb hby d1_131) rfl) ?_
  show Ends p.tables e below G (T2.setTop (mkF m 132 #[iv cd, rv b, iv atv] [(.int atv), (.ref b)]))
  refine Ends.go (fun _ => XS.iconst X2.here hx rfl (hb hby d1_132)) ?_
  show Ends p.tables e below G (T2.setTop (mkF m 133 #[iv cd, rv b, iv atv] [(.int (2 : Int32)), (.int atv), (.ref b)]))
  refine Ends.go (fun _ => XS.iadd X2.here hx rfl (hb hby d1_133) rfl) ?_
  show Ends p.tables e below G (T2.setTop (mkF m 134 #[iv cd, rv b, iv atv] [(.int (atv + (2 : Int32))), (.ref b)]))
  refine Ends.go (fun _ => XS.sipush X2.here hx rfl (hb hby d1_134)) ?_
  show Ends p.tables e below G (T2.setTop (mkF m 137 #[iv cd, rv b, iv atv] [(.int (128 : Int32)), (.int (atv + (2 : Int32))), (.ref b)]))
  refine Ends.go (fun _ => XS.iloadN X2.here hx rfl (hb hby d1_137) rfl) ?_
  show Ends p.tables e below G (T2.setTop (mkF m 138 #[iv cd, rv b, iv atv] [(.int cd), (.int (128 : Int32)), (.int (atv + (2 : Int32))), (.ref b)]))
  refine Ends.go (fun _ => XS.bipush X2.here hx rfl (hb hby d1_138)) ?_
  show Ends p.tables e below G (T2.setTop (mkF m 140 #[iv cd, rv b, iv atv] [(.int (6 : Int32)), (.int cd), (.int (128 : Int32)), (.int (atv + (2 : Int32))), (.ref b)]))
  refine Ends.go (fun _ => XS.ishr X2.here hx rfl (hb hby d1_140) rfl) ?_
  show Ends p.tables e below G (T2.setTop (mkF m 141 #[iv cd, rv b, iv atv] [(.int (cd >>> ((6 : Int32) &&& 31))), (.int (128 : Int32)), (.int (atv + (2 : Int32))), (.ref b)]))
  refine Ends.go (fun _ => XS.bipush X2.here hx rfl (hb hby d1_141)) ?_
  show Ends p.tables e below G (T2.setTop (mkF m 143 #[iv cd, rv b, iv atv] [(.int (63 : Int32)), (.int (cd >>> ((6 : Int32) &&& 31))), (.int (128 : Int32)), (.int (atv + (2 : Int32))), (.ref b)]))
  refine Ends.go (fun _ => XS.iand X2.here hx rfl (hb hby d1_143) rfl) ?_
  show Ends p.tables e below G (T2.setTop (mkF m 144 #[iv cd, rv b, iv atv] [(.int ((cd >>> ((6 : Int32) &&& 31)) &&& (63 : Int32))), (.int (128 : Int32)), (.int (atv + (2 : Int32))), (.ref b)]))
  refine Ends.go (fun _ => XS.ior X2.here hx rfl (hb hby d1_144) rfl) ?_
  show Ends p.tables e below G (T2.setTop (mkF m 145 #[iv cd, rv b, iv atv] [(.int ((128 : Int32) ||| ((cd >>> ((6 : Int32) &&& 31)) &&& (63 : Int32)))), (.int (atv + (2 : Int32))), (.ref b)]))
  refine Ends.go (fun _ => XS.i2b X2.here hx rfl (hb hby d1_145) rfl) ?_
  show Ends p.tables e below G (T2.setTop (mkF m 146 #[iv cd, rv b, iv atv] [(.int (((128 : Int32) ||| ((cd >>> ((6 : Int32) &&& 31)) &&& (63 : Int32))).toInt8.toInt32)), (.int (atv + (2 : Int32))), (.ref b)]))
  obtain ⟨T3, h3, X3, e3, W3, V3, st3⟩ := AF.stB V2 X2 hx hZ e2 (j := (atv + (2 : Int32))) (i := (i + 2)) (own_add hat (b := 2) rfl (by omega)) (by omega) (g := (mkF m 146 #[iv cd, rv b, iv atv] [(.int (((128 : Int32) ||| ((cd >>> ((6 : Int32) &&& 31)) &&& (63 : Int32))).toInt8.toInt32)), (.int (atv + (2 : Int32))), (.ref b)])) rfl rfl (hb hby d1_146)
  have sz3 := Nat.le_trans sz2 (Nat.le_of_eq W3.size.symm)
  have K3 := Keep.wr K2 W3 (Or.inl (List.mem_of_getElem? (i := 0) rfl))
  have N3 := Fr.snoc X3 N2 g_b
  refine Ends.go (fun _ => st3 _) ?_
  show Ends p.tables e below G (T3.setTop (mkF m 147 #[iv cd, rv b, iv atv] []))
  refine Ends.go (fun _ => XS.aloadN X3.here hx rfl (hb hby d1_147) rfl rfl) ?_
  show Ends p.tables e below G (T3.setTop (mkF m 148 #[iv cd, rv b, iv atv] [(.ref b)]))
  refine Ends.go (fun _ => XS.iloadN X3.here hx rfl (hb hby d1_148) rfl) ?_
  show Ends p.tables e below G (T3.setTop (mkF m 149 #[iv cd, rv b, iv atv] [(.int atv), (.ref b)]))
  refine Ends.go (fun _ => XS.iconst X3.here hx rfl (hb hby d1_149)) ?_
  show Ends p.tables e below G (T3.setTop (mkF m 150 #[iv cd, rv b, iv atv] [(.int (3 : Int32)), (.int atv), (.ref b)]))
  refine Ends.go (fun _ => XS.iadd X3.here hx rfl (hb hby d1_150) rfl) ?_
  show Ends p.tables e below G (T3.setTop (mkF m 151 #[iv cd, rv b, iv atv] [(.int (atv + (3 : Int32))), (.ref b)]))
  refine Ends.go (fun _ => XS.sipush X3.here hx rfl (hb hby d1_151)) ?_
  show Ends p.tables e below G (T3.setTop (mkF m 154 #[iv cd, rv b, iv atv] [(.int (128 : Int32)), (.int (atv + (3 : Int32))), (.ref b)]))
  refine Ends.go (fun _ => XS.iloadN X3.here hx rfl (hb hby d1_154) rfl) ?_
  show Ends p.tables e below G (T3.setTop (mkF m 155 #[iv cd, rv b, iv atv] [(.int cd), (.int (128 : Int32)), (.int (atv + (3 : Int32))), (.ref b)]))
  refine Ends.go (fun _ => XS.bipush X3.here hx rfl (hb hby d1_155)) ?_
  show Ends p.tables e below G (T3.setTop (mkF m 157 #[iv cd, rv b, iv atv] [(.int (63 : Int32)), (.int cd), (.int (128 : Int32)), (.int (atv + (3 : Int32))), (.ref b)]))
  refine Ends.go (fun _ => XS.iand X3.here hx rfl (hb hby d1_157) rfl) ?_
  show Ends p.tables e below G (T3.setTop (mkF m 158 #[iv cd, rv b, iv atv] [(.int (cd &&& (63 : Int32))), (.int (128 : Int32)), (.int (atv + (3 : Int32))), (.ref b)]))
  refine Ends.go (fun _ => XS.ior X3.here hx rfl (hb hby d1_158) rfl) ?_
  show Ends p.tables e below G (T3.setTop (mkF m 159 #[iv cd, rv b, iv atv] [(.int ((128 : Int32) ||| (cd &&& (63 : Int32)))), (.int (atv + (3 : Int32))), (.ref b)]))
  refine Ends.go (fun _ => XS.i2b X3.here hx rfl (hb hby d1_159) rfl) ?_
  show Ends p.tables e below G (T3.setTop (mkF m 160 #[iv cd, rv b, iv atv] [(.int (((128 : Int32) ||| (cd &&& (63 : Int32))).toInt8.toInt32)), (.int (atv + (3 : Int32))), (.ref b)]))
  obtain ⟨T4, h4, X4, e4, W4, V4, st4⟩ := AF.stB V3 X3 hx hZ e3 (j := (atv + (3 : Int32))) (i := (i + 3)) (own_add hat (b := 3) rfl (by omega)) (by omega) (g := (mkF m 160 #[iv cd, rv b, iv atv] [(.int (((128 : Int32) ||| (cd &&& (63 : Int32))).toInt8.toInt32)), (.int (atv + (3 : Int32))), (.ref b)])) rfl rfl (hb hby d1_160)
  have sz4 := Nat.le_trans sz3 (Nat.le_of_eq W4.size.symm)
  have K4 := Keep.wr K3 W4 (Or.inl (List.mem_of_getElem? (i := 0) rfl))
  have N4 := Fr.snoc X4 N3 g_b
  refine Ends.go (fun _ => st4 _) ?_
  show Ends p.tables e below G (T4.setTop (mkF m 161 #[iv cd, rv b, iv atv] []))
  refine Ends.go (fun _ => XS.iconst X4.here hx rfl (hb hby d1_161)) ?_
  show Ends p.tables e below G (T4.setTop (mkF m 162 #[iv cd, rv b, iv atv] [(.int (4 : Int32))]))
  refine own_finI X4 hx Bd.returns Bd.notSynchronized (hb hby d1_162) (Q := (Q1x4 Z cd b atv cn i F h0 n0)) hG (by decide) (by decide) ?_
  show (Q1x4 Z cd b atv cn i F h0 n0) _ T4.heap _
  rw [e4]
  exact ⟨rfl, N4, K4, AF.congr V4 (fun j hj => by by_cases g0 : j = i <;> by_cases g1 : j = i + 1 <;> by_cases g2 : j = i + 2 <;> by_cases g3 : j = i + 3 <;> simp [own_u4, g0, g1, g2, g3])⟩
theorem d2_0 : decode method_3_code 0 = .ok (.iload_n 1, 1) := by decide +kernel
theorem d2_1 : decode method_3_code 1 = .ok (.iload_n 2, 1) := by decide +kernel
theorem d2_2 : decode method_3_code 2 = .ok (.if_icmp .lt 12, 3) := by decide +kernel
theorem d2_5 : decode method_3_code 5 = .ok (.iload_n 1, 1) := by decide +kernel
theorem d2_6 : decode method_3_code 6 = .ok (.iload_n 2, 1) := by decide +kernel
theorem d2_7 : decode method_3_code 7 = .ok (.iload_n 3, 1) := by decide +kernel
theorem d2_8 : decode method_3_code 8 = .ok (.iadd, 1) := by decide +kernel
theorem d2_9 : decode method_3_code 9 = .ok (.if_icmp .ge 5, 3) := by decide +kernel
theorem d2_12 : decode method_3_code 12 = .ok (.iconst 1, 1) := by decide +kernel
theorem d2_13 : decode method_3_code 13 = .ok (.ireturn, 1) := by decide +kernel
theorem d2_14 : decode method_3_code 14 = .ok (.aload_n 0, 1) := by decide +kernel
theorem d2_15 : decode method_3_code 15 = .ok (.iload_n 1, 1) := by decide +kernel
theorem d2_16 : decode method_3_code 16 = .ok (.baload, 1) := by decide +kernel
theorem d2_17 : decode method_3_code 17 = .ok (.iload 4, 2) := by decide +kernel
theorem d2_19 : decode method_3_code 19 = .ok (.if_icmp .ne 7, 3) := by decide +kernel
theorem d2_22 : decode method_3_code 22 = .ok (.iconst 1, 1) := by decide +kernel
theorem d2_23 : decode method_3_code 23 = .ok (.goto 4, 3) := by decide +kernel
theorem d2_26 : decode method_3_code 26 = .ok (.iconst 0, 1) := by decide +kernel
theorem d2_27 : decode method_3_code 27 = .ok (.ireturn, 1) := by decide +kernel
theorem pn_2 : plainName "com/example/belge/belge/XmlScannerUtf8PinLaw" = true := by first | (simp [plainName, overriddenIn]; done) | decide +kernel
theorem ef_2 (m : MethodId) (x0 : Addr) (x1 : Int32) (x2 : Int32) (x3 : Int32) (x4 : Int32) : entryFrame m #[(.ref x0), (.int x1), (.int x2), (.int x3), (.int x4)] 5 = mkF m 0 #[rv x0, iv x1, iv x2, iv x3, iv x4] [] := by first | (simp [entryFrame, mkF, argsToLocals, Value.category]; done) | rfl
def Q2 (Z : State) (b : Addr) (kv : Int32) (atv : Int32) (nv : Int32) (f8 : Int32) (k : Nat) (i : Nat) (nn : Nat) (F : Nat → Int32) (h0 : Heap) (n0 : Nat) (v : Option Value) (h : Heap) (L : List Loc) : Prop := v = some (.int 1) ∧ Fr n0 L ∧ h = h0
set_option maxRecDepth 65536 in
set_option maxHeartbeats 40000000 in
theorem rm2 (l : Launch) (Z : State) (a0 : Array Value) (hw : ∀ d ∈ tables_1, d.before a0 Z = true) (ws : List Jvm.Cond) (b : Addr) (kv : Int32) (atv : Int32) (nv : Int32) (f8 : Int32) (k : Nat) (i : Nat) (nn : Nat) (F : Nat → Int32) (h0 : Heap) (n0 : Nat) (Z0 : n0 ≤ h0.size) (V_b : AF Z h0 b .byte 8 (fun k => .int (F k))) (hk : kv.toInt = (k : Int)) (hk8 : k < 8) (hat : atv.toInt = (i : Int)) (hi : i ≤ 3) (hn : nv.toInt = (nn : Int)) (hn4 : nn ≤ 4) (hF : (i ≤ k ∧ k < i + nn) ∨ F k = f8) :
    MetFree l (⟨"com/example/belge/belge/XmlScannerUtf8PinLaw", "untouched", "([BIIIB)Z"⟩ : MethodName) (head1 (Jvm.Cond.code (⟨"com/example/belge/belge/XmlScannerUtf8PinLaw", "untouched", "([BIIIB)Z"⟩ : MethodName) method_3_code 5 (some .boolean) :: ws) ({ frames := 0, cells := 0, slots := 0, locals := 0 } : Room)) (fun a U => a = #[(.ref b), (.int kv), (.int atv), (.int nv), (.int f8)] ∧ Z.Warmed39 U.vm ∧ U.heap = h0) (fun _ _ _ _ _ => True) (fun _ U o U' => ∃ v L, o = .returned v ∧ Q2 Z b kv atv nv f8 k i nn F h0 n0 v U'.heap L ∧ FrameEnd U o U' L ({ frames := 0, cells := 0, slots := 0, locals := 0 } : Room).cells ({ frames := 0, cells := 0, slots := 0, locals := 0 } : Room).slots) := by
  refine MetFree.of_bodySF (plainFor_of_name pn_2) hisR ?_
  intro p e s m args below meth c s₁ Bd hml0 hP hK
  obtain ⟨rfl, hZ, hh⟩ := hP
  have hx := Bd.exec
  have hby := Bd.bytes
  have hml : c.maxLocals = 5 := hml0
  have hown : s.vm.findClass "com/example/belge/belge/XmlScannerUtf8PinLaw" = some m.cls := findClass_of_methodNamed Bd.named
  have hnm := (name_of_methodNamed Bd.named Bd.method).1
  have X0 : Stand p l e ({ frames := 0, cells := 0, slots := 0, locals := 0 } : Room) s m #[(.ref b), (.int kv), (.int atv), (.int nv), (.int f8)] below meth c s₁ [] 0 0 := Stand.of_body Bd
  have e0 : s₁.heap = h0 := by rw [← hh, Bd.state]; rfl
  have N0 := Fr.nil n0
  show Ends p.tables e below (fun (s₂ : State) (o : Outcome) => ∃ v L, o = .returned v ∧ (Q2 Z b kv atv nv f8 k i nn F h0 n0) v s₂.heap L ∧ FrameEnd s o s₂ L ({ frames := 0, cells := 0, slots := 0, locals := 0 } : Room).cells ({ frames := 0, cells := 0, slots := 0, locals := 0 } : Room).slots) (s₁.setTop (entryFrame m #[(.ref b), (.int kv), (.int atv), (.int nv), (.int f8)] 5))
  refine Ends.any fun G hG => ?_
  refine Ends.go (fun t k => castTop (ef_2 m b kv atv nv f8) k) ?_
  show Ends p.tables e below G (s₁.setTop (mkF m 0 #[rv b, iv kv, iv atv, iv nv, iv f8] []))
  refine Ends.go (fun _ => XS.iloadN X0.here hx rfl (hb hby d2_0) rfl) ?_
  show Ends p.tables e below G (s₁.setTop (mkF m 1 #[rv b, iv kv, iv atv, iv nv, iv f8] [(.int kv)]))
  refine Ends.go (fun _ => XS.iloadN X0.here hx rfl (hb hby d2_1) rfl) ?_
  show Ends p.tables e below G (s₁.setTop (mkF m 2 #[rv b, iv kv, iv atv, iv nv, iv f8] [(.int atv), (.int kv)]))
  by_cases q1 : k < i
  · refine Ends.go (fun _ => XS.icmpYes X0.here hx rfl (pc0 := 2) (pc' := 14) rfl (hb hby d2_2) rfl (tlt ((own_lt hk hat).mpr q1 : kv < atv)).1 (by decide) (by decide)) ?_
    show Ends p.tables e below G (s₁.setTop (mkF m 14 #[rv b, iv kv, iv atv, iv nv, iv f8] []))
    refine Ends.go (fun _ => XS.aloadN X0.here hx rfl (hb hby d2_14) rfl rfl) ?_
    show Ends p.tables e below G (s₁.setTop (mkF m 15 #[rv b, iv kv, iv atv, iv nv, iv f8] [(.ref b)]))
    refine Ends.go (fun _ => XS.iloadN X0.here hx rfl (hb hby d2_15) rfl) ?_
    show Ends p.tables e below G (s₁.setTop (mkF m 16 #[rv b, iv kv, iv atv, iv nv, iv f8] [(.int kv), (.ref b)]))
    refine Ends.go (fun _ => AF.ldB V_b X0 hx hZ e0 (j := kv) (i := k) hk hk8 (v := (.int (F k))) rfl (g := (mkF m 16 #[rv b, iv kv, iv atv, iv nv, iv f8] [(.int kv), (.ref b)])) rfl rfl (hb hby d2_16) _) ?_
    show Ends p.tables e below G (s₁.setTop (mkF m 17 #[rv b, iv kv, iv atv, iv nv, iv f8] [(.int (F k))]))
    refine Ends.go (fun _ => XS.iload X0.here hx rfl (hb hby d2_17) rfl) ?_
    show Ends p.tables e below G (s₁.setTop (mkF m 19 #[rv b, iv kv, iv atv, iv nv, iv f8] [(.int f8), (.int (F k))]))
    refine Ends.go (fun _ => XS.icmpNo X0.here hx rfl (hb hby d2_19) rfl (teq (hF.resolve_left (by omega) : (F k) = f8)).2) ?_
    show Ends p.tables e below G (s₁.setTop (mkF m 22 #[rv b, iv kv, iv atv, iv nv, iv f8] []))
    refine Ends.go (fun _ => XS.iconst X0.here hx rfl (hb hby d2_22)) ?_
    show Ends p.tables e below G (s₁.setTop (mkF m 23 #[rv b, iv kv, iv atv, iv nv, iv f8] [(.int (1 : Int32))]))
    refine Ends.go (fun _ => XS.goto X0.here hx rfl (pc0 := 23) (pc' := 27) rfl (hb hby d2_23) (by decide) (by decide)) ?_
    show Ends p.tables e below G (s₁.setTop (mkF m 27 #[rv b, iv kv, iv atv, iv nv, iv f8] [(.int (1 : Int32))]))
    refine own_finS (t := .boolean) X0 hx Bd.returns (by simp) Bd.notSynchronized (hb hby d2_27) (Q := (Q2 Z b kv atv nv f8 k i nn F h0 n0)) hG (by decide) (by decide) ?_
    show (Q2 Z b kv atv nv f8 k i nn F h0 n0) _ s₁.heap _
    rw [e0]
    exact ⟨rfl, N0, rfl⟩
  · refine Ends.go (fun _ => XS.icmpNo X0.here hx rfl (hb hby d2_2) rfl (flt (fun z => q1 ((own_lt hk hat).mp z) : ¬ (kv < atv))).1) ?_
    show Ends p.tables e below G (s₁.setTop (mkF m 5 #[rv b, iv kv, iv atv, iv nv, iv f8] []))
    refine Ends.go (fun _ => XS.iloadN X0.here hx rfl (hb hby d2_5) rfl) ?_
    show Ends p.tables e below G (s₁.setTop (mkF m 6 #[rv b, iv kv, iv atv, iv nv, iv f8] [(.int kv)]))
    refine Ends.go (fun _ => XS.iloadN X0.here hx rfl (hb hby d2_6) rfl) ?_
    show Ends p.tables e below G (s₁.setTop (mkF m 7 #[rv b, iv kv, iv atv, iv nv, iv f8] [(.int atv), (.int kv)]))
    refine Ends.go (fun _ => XS.iloadN X0.here hx rfl (hb hby d2_7) rfl) ?_
    show Ends p.tables e below G (s₁.setTop (mkF m 8 #[rv b, iv kv, iv atv, iv nv, iv f8] [(.int nv), (.int atv), (.int kv)]))
    refine Ends.go (fun _ => XS.iadd X0.here hx rfl (hb hby d2_8) rfl) ?_
    show Ends p.tables e below G (s₁.setTop (mkF m 9 #[rv b, iv kv, iv atv, iv nv, iv f8] [(.int (atv + nv)), (.int kv)]))
    by_cases q2 : k < i + nn
    · refine Ends.go (fun _ => XS.icmpNo X0.here hx rfl (hb hby d2_9) rfl (tlt ((own_lt hk (own_add hat hn (by omega))).mpr q2 : kv < (atv + nv))).2.1) ?_
      show Ends p.tables e below G (s₁.setTop (mkF m 12 #[rv b, iv kv, iv atv, iv nv, iv f8] []))
      refine Ends.go (fun _ => XS.iconst X0.here hx rfl (hb hby d2_12)) ?_
      show Ends p.tables e below G (s₁.setTop (mkF m 13 #[rv b, iv kv, iv atv, iv nv, iv f8] [(.int (1 : Int32))]))
      refine own_finS (t := .boolean) X0 hx Bd.returns (by simp) Bd.notSynchronized (hb hby d2_13) (Q := (Q2 Z b kv atv nv f8 k i nn F h0 n0)) hG (by decide) (by decide) ?_
      show (Q2 Z b kv atv nv f8 k i nn F h0 n0) _ s₁.heap _
      rw [e0]
      exact ⟨rfl, N0, rfl⟩
    · refine Ends.go (fun _ => XS.icmpYes X0.here hx rfl (pc0 := 9) (pc' := 14) rfl (hb hby d2_9) rfl (flt (fun z => q2 ((own_lt hk (own_add hat hn (by omega))).mp z) : ¬ (kv < (atv + nv)))).2.1 (by decide) (by decide)) ?_
      show Ends p.tables e below G (s₁.setTop (mkF m 14 #[rv b, iv kv, iv atv, iv nv, iv f8] []))
      refine Ends.go (fun _ => XS.aloadN X0.here hx rfl (hb hby d2_14) rfl rfl) ?_
      show Ends p.tables e below G (s₁.setTop (mkF m 15 #[rv b, iv kv, iv atv, iv nv, iv f8] [(.ref b)]))
      refine Ends.go (fun _ => XS.iloadN X0.here hx rfl (hb hby d2_15) rfl) ?_
      show Ends p.tables e below G (s₁.setTop (mkF m 16 #[rv b, iv kv, iv atv, iv nv, iv f8] [(.int kv), (.ref b)]))
      refine Ends.go (fun _ => AF.ldB V_b X0 hx hZ e0 (j := kv) (i := k) hk hk8 (v := (.int (F k))) rfl (g := (mkF m 16 #[rv b, iv kv, iv atv, iv nv, iv f8] [(.int kv), (.ref b)])) rfl rfl (hb hby d2_16) _) ?_
      show Ends p.tables e below G (s₁.setTop (mkF m 17 #[rv b, iv kv, iv atv, iv nv, iv f8] [(.int (F k))]))
      refine Ends.go (fun _ => XS.iload X0.here hx rfl (hb hby d2_17) rfl) ?_
      show Ends p.tables e below G (s₁.setTop (mkF m 19 #[rv b, iv kv, iv atv, iv nv, iv f8] [(.int f8), (.int (F k))]))
      refine Ends.go (fun _ => XS.icmpNo X0.here hx rfl (hb hby d2_19) rfl (teq (hF.resolve_left (by omega) : (F k) = f8)).2) ?_
      show Ends p.tables e below G (s₁.setTop (mkF m 22 #[rv b, iv kv, iv atv, iv nv, iv f8] []))
      refine Ends.go (fun _ => XS.iconst X0.here hx rfl (hb hby d2_22)) ?_
      show Ends p.tables e below G (s₁.setTop (mkF m 23 #[rv b, iv kv, iv atv, iv nv, iv f8] [(.int (1 : Int32))]))
      refine Ends.go (fun _ => XS.goto X0.here hx rfl (pc0 := 23) (pc' := 27) rfl (hb hby d2_23) (by decide) (by decide)) ?_
      show Ends p.tables e below G (s₁.setTop (mkF m 27 #[rv b, iv kv, iv atv, iv nv, iv f8] [(.int (1 : Int32))]))
      refine own_finS (t := .boolean) X0 hx Bd.returns (by simp) Bd.notSynchronized (hb hby d2_27) (Q := (Q2 Z b kv atv nv f8 k i nn F h0 n0)) hG (by decide) (by decide) ?_
      show (Q2 Z b kv atv nv f8 k i nn F h0 n0) _ s₁.heap _
      rw [e0]
      exact ⟨rfl, N0, rfl⟩
theorem own_nn (x : Int32) : nar .byte (x.toInt8.toInt32) = x.toInt8.toInt32 := by
  show (x.toInt8.toInt32).toInt8.toInt32 = _
  rw [Int8.toInt8_toInt32]
theorem pd_0 : parseMethodDescriptor "(I[BI)I" = some ⟨[.int, (.array .byte), .int], some .int⟩ := by decide +kernel
theorem pd_1 : parseMethodDescriptor "([BIIIB)Z" = some ⟨[(.array .byte), .int, .int, .int, .byte], some .boolean⟩ := by decide +kernel
theorem pn_0 : plainName "com/example/belge/belge/XmlScannerUtf8PinLaw" = true := by first | (simp [plainName, overriddenIn]; done) | decide +kernel
theorem ef_0 (m : MethodId) (x0 : Int32) (x1 : Int32) (x2 : Int32) : entryFrame m #[(.int x0), (.int x1), (.int x2)] maxLocals = mkF m 0 #[iv x0, iv x1, iv x2, un, un, un, un, un, un, un, un, un, un] [] := by first | (simp [entryFrame, mkF, argsToLocals, Value.category, maxLocals]; done) | rfl
def Q0 (Z : State) (vc : Int32) (va : Int32) (vf : Int32) (h0 : Heap) (n0 : Nat) (v : Option Value) (h : Heap) (L : List Loc) : Prop := v = some (.int 1) ∧ Fr n0 L
set_option maxRecDepth 65536 in
set_option maxHeartbeats 40000000 in
theorem rm0 (l : Launch) (Z : State) (a0 : Array Value) (hw : ∀ d ∈ tables_1, d.before a0 Z = true) (ws : List Jvm.Cond) (vc : Int32) (va : Int32) (vf : Int32) (h0 : Heap) (n0 : Nat) (Z0 : n0 ≤ h0.size) :
    MetFree l x (head1 (Jvm.Cond.code x code maxLocals ret :: ws) room_1) (fun a U => a = #[(.int vc), (.int va), (.int vf)] ∧ Z.Warmed39 U.vm ∧ U.heap = h0) (fun _ _ _ _ _ => True) (fun _ U o U' => ∃ v L, o = .returned v ∧ Q0 Z vc va vf h0 n0 v U'.heap L ∧ FrameEnd U o U' L room_1.cells room_1.slots) := by
  refine MetFree.of_bodySF (plainFor_of_name pn_0) hisR ?_
  intro p e s m args below meth c s₁ Bd hml0 hP hK
  obtain ⟨rfl, hZ, hh⟩ := hP
  have hx := Bd.exec
  have hby := Bd.bytes
  have hml : c.maxLocals = 13 := hml0
  have hown : s.vm.findClass "com/example/belge/belge/XmlScannerUtf8PinLaw" = some m.cls := findClass_of_methodNamed Bd.named
  have hnm := (name_of_methodNamed Bd.named Bd.method).1
  have X0 : Stand p l e room_1 s m #[(.int vc), (.int va), (.int vf)] below meth c s₁ [] 0 0 := Stand.of_body Bd
  have e0 : s₁.heap = h0 := by rw [← hh, Bd.state]; rfl
  have N0 := Fr.nil n0
  show Ends p.tables e below (fun (s₂ : State) (o : Outcome) => ∃ v L, o = .returned v ∧ (Q0 Z vc va vf h0 n0) v s₂.heap L ∧ FrameEnd s o s₂ L room_1.cells room_1.slots) (s₁.setTop (entryFrame m #[(.int vc), (.int va), (.int vf)] maxLocals))
  refine Ends.any fun G hG => ?_
  refine Ends.go (fun t k => castTop (ef_0 m vc va vf) k) ?_
  show Ends p.tables e below G (s₁.setTop (mkF m 0 #[iv vc, iv va, iv vf, un, un, un, un, un, un, un, un, un, un] []))
  refine Ends.go (fun _ => XS.iloadN X0.here hx rfl (hb hby at_0) rfl) ?_
  show Ends p.tables e below G (s₁.setTop (mkF m 1 #[iv vc, iv va, iv vf, un, un, un, un, un, un, un, un, un, un] [(.int vc)]))
  refine Ends.go (fun _ => X0.ldcInt hx hown (mvT hZ (hw _ (List.mem_of_getElem? (i := 0) rfl))) (g := (mkF m 1 #[iv vc, iv va, iv vf, un, un, un, un, un, un, un, un, un, un] [(.int vc)])) rfl (hb hby at_1) _) ?_
  show Ends p.tables e below G (s₁.setTop (mkF m 3 #[iv vc, iv va, iv vf, un, un, un, un, un, un, un, un, un, un] [(.int (2097151 : Int32)), (.int vc)]))
  refine Ends.go (fun _ => XS.iand X0.here hx rfl (hb hby at_3) rfl) ?_
  show Ends p.tables e below G (s₁.setTop (mkF m 4 #[iv vc, iv va, iv vf, un, un, un, un, un, un, un, un, un, un] [(.int (vc &&& (2097151 : Int32)))]))
  refine Ends.go (fun _ => X0.ldcInt hx hown (mvT hZ (hw _ (List.mem_of_getElem? (i := 1) rfl))) (g := (mkF m 4 #[iv vc, iv va, iv vf, un, un, un, un, un, un, un, un, un, un] [(.int (vc &&& (2097151 : Int32)))])) rfl (hb hby at_4) _) ?_
  show Ends p.tables e below G (s₁.setTop (mkF m 6 #[iv vc, iv va, iv vf, un, un, un, un, un, un, un, un, un, un] [(.int (1114112 : Int32)), (.int (vc &&& (2097151 : Int32)))]))
  refine Ends.go (fun _ => XS.irem X0.here hx rfl (hb hby at_6) rfl (by decide)) ?_
  show Ends p.tables e below G (s₁.setTop (mkF m 7 #[iv vc, iv va, iv vf, un, un, un, un, un, un, un, un, un, un] [(.int ((vc &&& (2097151 : Int32)) - ((vc &&& (2097151 : Int32)) / (1114112 : Int32)) * (1114112 : Int32)))]))
  refine Ends.go (fun _ => XS.istoreN X0.here hx rfl (hb hby at_7) rfl (l' := #[iv vc, iv va, iv vf, iv ((vc &&& (2097151 : Int32)) - ((vc &&& (2097151 : Int32)) / (1114112 : Int32)) * (1114112 : Int32)), un, un, un, un, un, un, un, un, un]) rfl) ?_
  show Ends p.tables e below G (s₁.setTop (mkF m 8 #[iv vc, iv va, iv vf, iv ((vc &&& (2097151 : Int32)) - ((vc &&& (2097151 : Int32)) / (1114112 : Int32)) * (1114112 : Int32)), un, un, un, un, un, un, un, un, un] []))
  obtain ⟨cn, hcn, hcd⟩ := own_irem (x := vc &&& 2097151) (y := 1114112) (b := 1114112) (by rw [c_mask vc 2097151 21 (by decide) (by decide)]; exact Int.emod_nonneg _ (by decide)) rfl (by decide)
  generalize ((vc &&& (2097151 : Int32)) - ((vc &&& (2097151 : Int32)) / (1114112 : Int32)) * (1114112 : Int32)) = cd at hcd ⊢
  show Ends p.tables e below G (s₁.setTop (mkF m 8 #[iv vc, iv va, iv vf, iv cd, un, un, un, un, un, un, un, un, un] []))
  refine Ends.go (fun _ => XS.iloadN X0.here hx rfl (hb hby at_8) rfl) ?_
  show Ends p.tables e below G (s₁.setTop (mkF m 9 #[iv vc, iv va, iv vf, iv cd, un, un, un, un, un, un, un, un, un] [(.int va)]))
  refine Ends.go (fun _ => XS.iconst X0.here hx rfl (hb hby at_9)) ?_
  show Ends p.tables e below G (s₁.setTop (mkF m 10 #[iv vc, iv va, iv vf, iv cd, un, un, un, un, un, un, un, un, un] [(.int (3 : Int32)), (.int va)]))
  refine Ends.go (fun _ => XS.iand X0.here hx rfl (hb hby at_10) rfl) ?_
  show Ends p.tables e below G (s₁.setTop (mkF m 11 #[iv vc, iv va, iv vf, iv cd, un, un, un, un, un, un, un, un, un] [(.int (va &&& (3 : Int32)))]))
  refine Ends.go (fun _ => XS.istore X0.here hx rfl (hb hby at_11) rfl (l' := #[iv vc, iv va, iv vf, iv cd, iv (va &&& (3 : Int32)), un, un, un, un, un, un, un, un]) rfl) ?_
  show Ends p.tables e below G (s₁.setTop (mkF m 13 #[iv vc, iv va, iv vf, iv cd, iv (va &&& (3 : Int32)), un, un, un, un, un, un, un, un] []))
  obtain ⟨i, hi, hat⟩ : ∃ i : Nat, i ≤ 3 ∧ (va &&& (3 : Int32)).toInt = (i : Int) := by
    have h := c_mask va 3 2 (by decide) (by decide)
    have h1 := Int.emod_nonneg va.toInt (b := ((2 ^ 2 : Nat) : Int)) (by decide)
    have h2 := Int.emod_lt_of_pos va.toInt (b := ((2 ^ 2 : Nat) : Int)) (by decide)
    exact ⟨(va.toInt % ((2 ^ 2 : Nat) : Int)).toNat, by omega, by omega⟩
  generalize (va &&& (3 : Int32)) = atv at hat ⊢
  show Ends p.tables e below G (s₁.setTop (mkF m 13 #[iv vc, iv va, iv vf, iv cd, iv atv, un, un, un, un, un, un, un, un] []))
  refine Ends.go (fun _ => XS.iloadN X0.here hx rfl (hb hby at_13) rfl) ?_
  show Ends p.tables e below G (s₁.setTop (mkF m 14 #[iv vc, iv va, iv vf, iv cd, iv atv, un, un, un, un, un, un, un, un] [(.int vf)]))
  refine Ends.go (fun _ => XS.i2b X0.here hx rfl (hb hby at_14) rfl) ?_
  show Ends p.tables e below G (s₁.setTop (mkF m 15 #[iv vc, iv va, iv vf, iv cd, iv atv, un, un, un, un, un, un, un, un] [(.int (vf.toInt8.toInt32))]))
  refine Ends.go (fun _ => XS.istore X0.here hx rfl (hb hby at_15) rfl (l' := #[iv vc, iv va, iv vf, iv cd, iv atv, iv (vf.toInt8.toInt32), un, un, un, un, un, un, un]) rfl) ?_
  show Ends p.tables e below G (s₁.setTop (mkF m 17 #[iv vc, iv va, iv vf, iv cd, iv atv, iv (vf.toInt8.toInt32), un, un, un, un, un, un, un] []))
  refine Ends.go (fun _ => XS.bipush X0.here hx rfl (hb hby at_17)) ?_
  show Ends p.tables e below G (s₁.setTop (mkF m 19 #[iv vc, iv va, iv vf, iv cd, iv atv, iv (vf.toInt8.toInt32), un, un, un, un, un, un, un] [(.int (8 : Int32))]))
  obtain ⟨T1, h1, k1, X1, e1, E1, A1, st1⟩ := newP X0 hx hZ (hw _ (List.mem_of_getElem? (i := 2) rfl)) e0 (g := (mkF m 19 #[iv vc, iv va, iv vf, iv cd, iv atv, iv (vf.toInt8.toInt32), un, un, un, un, un, un, un] [(.int (8 : Int32))])) rfl (hb hby at_19) rfl (by decide) (cap := 8) (by decide) (by decide) (by decide) (by decide)
  obtain ⟨b1, g1⟩ : ∃ z, z = h0.size := ⟨_, rfl⟩
  rw [← g1] at A1 st1
  have g_b1 : n0 ≤ b1 := Nat.le_trans Z0 (Nat.le_of_eq g1.symm)
  have sz1 := Nat.le_trans Z0 E1.1
  have V1 : AF Z h1 b1 .byte 8 (fun _ => (.int (0 : Int32))) := AF.new A1 rfl
  refine Ends.go (fun _ => st1 _) ?_
  show Ends p.tables e below G (T1.setTop (mkF m 21 #[iv vc, iv va, iv vf, iv cd, iv atv, iv (vf.toInt8.toInt32), un, un, un, un, un, un, un] [(.ref b1)]))
  refine Ends.go (fun _ => XS.astore X1.here hx rfl (hb hby at_21) rfl rfl (l' := #[iv vc, iv va, iv vf, iv cd, iv atv, iv (vf.toInt8.toInt32), rv b1, un, un, un, un, un, un]) rfl) ?_
  show Ends p.tables e below G (T1.setTop (mkF m 23 #[iv vc, iv va, iv vf, iv cd, iv atv, iv (vf.toInt8.toInt32), rv b1, un, un, un, un, un, un] []))
  refine Ends.go (fun _ => XS.aload X1.here hx rfl (hb hby at_23) rfl rfl) ?_
  show Ends p.tables e below G (T1.setTop (mkF m 25 #[iv vc, iv va, iv vf, iv cd, iv atv, iv (vf.toInt8.toInt32), rv b1, un, un, un, un, un, un] [(.ref b1)]))
  refine Ends.go (fun _ => XS.iconst X1.here hx rfl (hb hby at_25)) ?_
  show Ends p.tables e below G (T1.setTop (mkF m 26 #[iv vc, iv va, iv vf, iv cd, iv atv, iv (vf.toInt8.toInt32), rv b1, un, un, un, un, un, un] [(.int (0 : Int32)), (.ref b1)]))
  refine Ends.go (fun _ => XS.iload X1.here hx rfl (hb hby at_26) rfl) ?_
  show Ends p.tables e below G (T1.setTop (mkF m 28 #[iv vc, iv va, iv vf, iv cd, iv atv, iv (vf.toInt8.toInt32), rv b1, un, un, un, un, un, un] [(.int (vf.toInt8.toInt32)), (.int (0 : Int32)), (.ref b1)]))
  obtain ⟨T2, h2, X2, e2, W2, V2, st2⟩ := AF.stB V1 X1 hx hZ e1 (j := (0 : Int32)) (i := 0) (by decide) (by decide) (g := (mkF m 28 #[iv vc, iv va, iv vf, iv cd, iv atv, iv (vf.toInt8.toInt32), rv b1, un, un, un, un, un, un] [(.int (vf.toInt8.toInt32)), (.int (0 : Int32)), (.ref b1)])) rfl rfl (hb hby at_28)
  have sz2 := Nat.le_trans sz1 (Nat.le_of_eq W2.size.symm)
  have N2 := Fr.snoc X2 N0 g_b1
  refine Ends.go (fun _ => st2 _) ?_
  show Ends p.tables e below G (T2.setTop (mkF m 29 #[iv vc, iv va, iv vf, iv cd, iv atv, iv (vf.toInt8.toInt32), rv b1, un, un, un, un, un, un] []))
  refine Ends.go (fun _ => XS.aload X2.here hx rfl (hb hby at_29) rfl rfl) ?_
  show Ends p.tables e below G (T2.setTop (mkF m 31 #[iv vc, iv va, iv vf, iv cd, iv atv, iv (vf.toInt8.toInt32), rv b1, un, un, un, un, un, un] [(.ref b1)]))
  refine Ends.go (fun _ => XS.iconst X2.here hx rfl (hb hby at_31)) ?_
  show Ends p.tables e below G (T2.setTop (mkF m 32 #[iv vc, iv va, iv vf, iv cd, iv atv, iv (vf.toInt8.toInt32), rv b1, un, un, un, un, un, un] [(.int (1 : Int32)), (.ref b1)]))
  refine Ends.go (fun _ => XS.iload X2.here hx rfl (hb hby at_32) rfl) ?_
  show Ends p.tables e below G (T2.setTop (mkF m 34 #[iv vc, iv va, iv vf, iv cd, iv atv, iv (vf.toInt8.toInt32), rv b1, un, un, un, un, un, un] [(.int (vf.toInt8.toInt32)), (.int (1 : Int32)), (.ref b1)]))
  obtain ⟨T3, h3, X3, e3, W3, V3, st3⟩ := AF.stB V2 X2 hx hZ e2 (j := (1 : Int32)) (i := 1) (by decide) (by decide) (g := (mkF m 34 #[iv vc, iv va, iv vf, iv cd, iv atv, iv (vf.toInt8.toInt32), rv b1, un, un, un, un, un, un] [(.int (vf.toInt8.toInt32)), (.int (1 : Int32)), (.ref b1)])) rfl rfl (hb hby at_34)
  have sz3 := Nat.le_trans sz2 (Nat.le_of_eq W3.size.symm)
  have N3 := Fr.snoc X3 N2 g_b1
  refine Ends.go (fun _ => st3 _) ?_
  show Ends p.tables e below G (T3.setTop (mkF m 35 #[iv vc, iv va, iv vf, iv cd, iv atv, iv (vf.toInt8.toInt32), rv b1, un, un, un, un, un, un] []))
  refine Ends.go (fun _ => XS.aload X3.here hx rfl (hb hby at_35) rfl rfl) ?_
  show Ends p.tables e below G (T3.setTop (mkF m 37 #[iv vc, iv va, iv vf, iv cd, iv atv, iv (vf.toInt8.toInt32), rv b1, un, un, un, un, un, un] [(.ref b1)]))
  refine Ends.go (fun _ => XS.iconst X3.here hx rfl (hb hby at_37)) ?_
  show Ends p.tables e below G (T3.setTop (mkF m 38 #[iv vc, iv va, iv vf, iv cd, iv atv, iv (vf.toInt8.toInt32), rv b1, un, un, un, un, un, un] [(.int (2 : Int32)), (.ref b1)]))
  refine Ends.go (fun _ => XS.iload X3.here hx rfl (hb hby at_38) rfl) ?_
  show Ends p.tables e below G (T3.setTop (mkF m 40 #[iv vc, iv va, iv vf, iv cd, iv atv, iv (vf.toInt8.toInt32), rv b1, un, un, un, un, un, un] [(.int (vf.toInt8.toInt32)), (.int (2 : Int32)), (.ref b1)]))
  obtain ⟨T4, h4, X4, e4, W4, V4, st4⟩ := AF.stB V3 X3 hx hZ e3 (j := (2 : Int32)) (i := 2) (by decide) (by decide) (g := (mkF m 40 #[iv vc, iv va, iv vf, iv cd, iv atv, iv (vf.toInt8.toInt32), rv b1, un, un, un, un, un, un] [(.int (vf.toInt8.toInt32)), (.int (2 : Int32)), (.ref b1)])) rfl rfl (hb hby at_40)
  have sz4 := Nat.le_trans sz3 (Nat.le_of_eq W4.size.symm)
  have N4 := Fr.snoc X4 N3 g_b1
  refine Ends.go (fun _ => st4 _) ?_
  show Ends p.tables e below G (T4.setTop (mkF m 41 #[iv vc, iv va, iv vf, iv cd, iv atv, iv (vf.toInt8.toInt32), rv b1, un, un, un, un, un, un] []))
  refine Ends.go (fun _ => XS.aload X4.here hx rfl (hb hby at_41) rfl rfl) ?_
  show Ends p.tables e below G (T4.setTop (mkF m 43 #[iv vc, iv va, iv vf, iv cd, iv atv, iv (vf.toInt8.toInt32), rv b1, un, un, un, un, un, un] [(.ref b1)]))
  refine Ends.go (fun _ => XS.iconst X4.here hx rfl (hb hby at_43)) ?_
  show Ends p.tables e below G (T4.setTop (mkF m 44 #[iv vc, iv va, iv vf, iv cd, iv atv, iv (vf.toInt8.toInt32), rv b1, un, un, un, un, un, un] [(.int (3 : Int32)), (.ref b1)]))
  refine Ends.go (fun _ => XS.iload X4.here hx rfl (hb hby at_44) rfl) ?_
  show Ends p.tables e below G (T4.setTop (mkF m 46 #[iv vc, iv va, iv vf, iv cd, iv atv, iv (vf.toInt8.toInt32), rv b1, un, un, un, un, un, un] [(.int (vf.toInt8.toInt32)), (.int (3 : Int32)), (.ref b1)]))
  obtain ⟨T5, h5, X5, e5, W5, V5, st5⟩ := AF.stB V4 X4 hx hZ e4 (j := (3 : Int32)) (i := 3) (by decide) (by decide) (g := (mkF m 46 #[iv vc, iv va, iv vf, iv cd, iv atv, iv (vf.toInt8.toInt32), rv b1, un, un, un, un, un, un] [(.int (vf.toInt8.toInt32)), (.int (3 : Int32)), (.ref b1)])) rfl rfl (hb hby at_46)
  have sz5 := Nat.le_trans sz4 (Nat.le_of_eq W5.size.symm)
  have N5 := Fr.snoc X5 N4 g_b1
  refine Ends.go (fun _ => st5 _) ?_
  show Ends p.tables e below G (T5.setTop (mkF m 47 #[iv vc, iv va, iv vf, iv cd, iv atv, iv (vf.toInt8.toInt32), rv b1, un, un, un, un, un, un] []))
  refine Ends.go (fun _ => XS.aload X5.here hx rfl (hb hby at_47) rfl rfl) ?_
  show Ends p.tables e below G (T5.setTop (mkF m 49 #[iv vc, iv va, iv vf, iv cd, iv atv, iv (vf.toInt8.toInt32), rv b1, un, un, un, un, un, un] [(.ref b1)]))
  refine Ends.go (fun _ => XS.iconst X5.here hx rfl (hb hby at_49)) ?_
  show Ends p.tables e below G (T5.setTop (mkF m 50 #[iv vc, iv va, iv vf, iv cd, iv atv, iv (vf.toInt8.toInt32), rv b1, un, un, un, un, un, un] [(.int (4 : Int32)), (.ref b1)]))
  refine Ends.go (fun _ => XS.iload X5.here hx rfl (hb hby at_50) rfl) ?_
  show Ends p.tables e below G (T5.setTop (mkF m 52 #[iv vc, iv va, iv vf, iv cd, iv atv, iv (vf.toInt8.toInt32), rv b1, un, un, un, un, un, un] [(.int (vf.toInt8.toInt32)), (.int (4 : Int32)), (.ref b1)]))
  obtain ⟨T6, h6, X6, e6, W6, V6, st6⟩ := AF.stB V5 X5 hx hZ e5 (j := (4 : Int32)) (i := 4) (by decide) (by decide) (g := (mkF m 52 #[iv vc, iv va, iv vf, iv cd, iv atv, iv (vf.toInt8.toInt32), rv b1, un, un, un, un, un, un] [(.int (vf.toInt8.toInt32)), (.int (4 : Int32)), (.ref b1)])) rfl rfl (hb hby at_52)
  have sz6 := Nat.le_trans sz5 (Nat.le_of_eq W6.size.symm)
  have N6 := Fr.snoc X6 N5 g_b1
  refine Ends.go (fun _ => st6 _) ?_
  show Ends p.tables e below G (T6.setTop (mkF m 53 #[iv vc, iv va, iv vf, iv cd, iv atv, iv (vf.toInt8.toInt32), rv b1, un, un, un, un, un, un] []))
  refine Ends.go (fun _ => XS.aload X6.here hx rfl (hb hby at_53) rfl rfl) ?_
  show Ends p.tables e below G (T6.setTop (mkF m 55 #[iv vc, iv va, iv vf, iv cd, iv atv, iv (vf.toInt8.toInt32), rv b1, un, un, un, un, un, un] [(.ref b1)]))
  refine Ends.go (fun _ => XS.iconst X6.here hx rfl (hb hby at_55)) ?_
  show Ends p.tables e below G (T6.setTop (mkF m 56 #[iv vc, iv va, iv vf, iv cd, iv atv, iv (vf.toInt8.toInt32), rv b1, un, un, un, un, un, un] [(.int (5 : Int32)), (.ref b1)]))
  refine Ends.go (fun _ => XS.iload X6.here hx rfl (hb hby at_56) rfl) ?_
  show Ends p.tables e below G (T6.setTop (mkF m 58 #[iv vc, iv va, iv vf, iv cd, iv atv, iv (vf.toInt8.toInt32), rv b1, un, un, un, un, un, un] [(.int (vf.toInt8.toInt32)), (.int (5 : Int32)), (.ref b1)]))
  obtain ⟨T7, h7, X7, e7, W7, V7, st7⟩ := AF.stB V6 X6 hx hZ e6 (j := (5 : Int32)) (i := 5) (by decide) (by decide) (g := (mkF m 58 #[iv vc, iv va, iv vf, iv cd, iv atv, iv (vf.toInt8.toInt32), rv b1, un, un, un, un, un, un] [(.int (vf.toInt8.toInt32)), (.int (5 : Int32)), (.ref b1)])) rfl rfl (hb hby at_58)
  have sz7 := Nat.le_trans sz6 (Nat.le_of_eq W7.size.symm)
  have N7 := Fr.snoc X7 N6 g_b1
  refine Ends.go (fun _ => st7 _) ?_
  show Ends p.tables e below G (T7.setTop (mkF m 59 #[iv vc, iv va, iv vf, iv cd, iv atv, iv (vf.toInt8.toInt32), rv b1, un, un, un, un, un, un] []))
  refine Ends.go (fun _ => XS.aload X7.here hx rfl (hb hby at_59) rfl rfl) ?_
  show Ends p.tables e below G (T7.setTop (mkF m 61 #[iv vc, iv va, iv vf, iv cd, iv atv, iv (vf.toInt8.toInt32), rv b1, un, un, un, un, un, un] [(.ref b1)]))
  refine Ends.go (fun _ => XS.bipush X7.here hx rfl (hb hby at_61)) ?_
  show Ends p.tables e below G (T7.setTop (mkF m 63 #[iv vc, iv va, iv vf, iv cd, iv atv, iv (vf.toInt8.toInt32), rv b1, un, un, un, un, un, un] [(.int (6 : Int32)), (.ref b1)]))
  refine Ends.go (fun _ => XS.iload X7.here hx rfl (hb hby at_63) rfl) ?_
  show Ends p.tables e below G (T7.setTop (mkF m 65 #[iv vc, iv va, iv vf, iv cd, iv atv, iv (vf.toInt8.toInt32), rv b1, un, un, un, un, un, un] [(.int (vf.toInt8.toInt32)), (.int (6 : Int32)), (.ref b1)]))
  obtain ⟨T8, h8, X8, e8, W8, V8, st8⟩ := AF.stB V7 X7 hx hZ e7 (j := (6 : Int32)) (i := 6) (by decide) (by decide) (g := (mkF m 65 #[iv vc, iv va, iv vf, iv cd, iv atv, iv (vf.toInt8.toInt32), rv b1, un, un, un, un, un, un] [(.int (vf.toInt8.toInt32)), (.int (6 : Int32)), (.ref b1)])) rfl rfl (hb hby at_65)
  have sz8 := Nat.le_trans sz7 (Nat.le_of_eq W8.size.symm)
  have N8 := Fr.snoc X8 N7 g_b1
  refine Ends.go (fun _ => st8 _) ?_
  show Ends p.tables e below G (T8.setTop (mkF m 66 #[iv vc, iv va, iv vf, iv cd, iv atv, iv (vf.toInt8.toInt32), rv b1, un, un, un, un, un, un] []))
  refine Ends.go (fun _ => XS.aload X8.here hx rfl (hb hby at_66) rfl rfl) ?_
  show Ends p.tables e below G (T8.setTop (mkF m 68 #[iv vc, iv va, iv vf, iv cd, iv atv, iv (vf.toInt8.toInt32), rv b1, un, un, un, un, un, un] [(.ref b1)]))
  refine Ends.go (fun _ => XS.bipush X8.here hx rfl (hb hby at_68)) ?_
  show Ends p.tables e below G (T8.setTop (mkF m 70 #[iv vc, iv va, iv vf, iv cd, iv atv, iv (vf.toInt8.toInt32), rv b1, un, un, un, un, un, un] [(.int (7 : Int32)), (.ref b1)]))
  refine Ends.go (fun _ => XS.iload X8.here hx rfl (hb hby at_70) rfl) ?_
  show Ends p.tables e below G (T8.setTop (mkF m 72 #[iv vc, iv va, iv vf, iv cd, iv atv, iv (vf.toInt8.toInt32), rv b1, un, un, un, un, un, un] [(.int (vf.toInt8.toInt32)), (.int (7 : Int32)), (.ref b1)]))
  obtain ⟨T9, h9, X9, e9, W9, V9, st9⟩ := AF.stB V8 X8 hx hZ e8 (j := (7 : Int32)) (i := 7) (by decide) (by decide) (g := (mkF m 72 #[iv vc, iv va, iv vf, iv cd, iv atv, iv (vf.toInt8.toInt32), rv b1, un, un, un, un, un, un] [(.int (vf.toInt8.toInt32)), (.int (7 : Int32)), (.ref b1)])) rfl rfl (hb hby at_72)
  have sz9 := Nat.le_trans sz8 (Nat.le_of_eq W9.size.symm)
  have N9 := Fr.snoc X9 N8 g_b1
  refine Ends.go (fun _ => st9 _) ?_
  show Ends p.tables e below G (T9.setTop (mkF m 73 #[iv vc, iv va, iv vf, iv cd, iv atv, iv (vf.toInt8.toInt32), rv b1, un, un, un, un, un, un] []))
  refine Ends.go (fun _ => XS.iloadN X9.here hx rfl (hb hby at_73) rfl) ?_
  show Ends p.tables e below G (T9.setTop (mkF m 74 #[iv vc, iv va, iv vf, iv cd, iv atv, iv (vf.toInt8.toInt32), rv b1, un, un, un, un, un, un] [(.int cd)]))
  refine Ends.go (fun _ => XS.aload X9.here hx rfl (hb hby at_74) rfl rfl) ?_
  show Ends p.tables e below G (T9.setTop (mkF m 76 #[iv vc, iv va, iv vf, iv cd, iv atv, iv (vf.toInt8.toInt32), rv b1, un, un, un, un, un, un] [(.ref b1), (.int cd)]))
  refine Ends.go (fun _ => XS.iload X9.here hx rfl (hb hby at_76) rfl) ?_
  show Ends p.tables e below G (T9.setTop (mkF m 78 #[iv vc, iv va, iv vf, iv cd, iv atv, iv (vf.toInt8.toInt32), rv b1, un, un, un, un, un, un] [(.int atv), (.ref b1), (.int cd)]))
  have hf8 : nar .byte (vf.toInt8.toInt32) = (vf.toInt8.toInt32) := own_nn _
  have V0 : AF Z h9 b1 .byte 8 (fun _ => .int (vf.toInt8.toInt32)) := AF.congr V9 (fun j hj => by rw [hf8]; match j, hj with | 0, _ => rfl | 1, _ => rfl | 2, _ => rfl | 3, _ => rfl | 4, _ => rfl | 5, _ => rfl | 6, _ => rfl | 7, _ => rfl)
  generalize (vf.toInt8.toInt32) = f8 at V0 ⊢
  show Ends p.tables e below G (T9.setTop (mkF m 78 #[iv vc, iv va, iv vf, iv cd, iv atv, iv f8, rv b1, un, un, un, un, un, un] [(.int atv), (.ref b1), (.int cd)]))
  have tail : ∀ (T9 : State) (L9 : List Loc) (nv ne : Int32) (nn : Nat) (F : Nat → Int32), Stand p l e room_1 s m #[(.int vc), (.int va), (.int vf)] below meth c T9 L9 (0 + 1) (0 + 8) → Fr n0 L9 → n0 ≤ T9.heap.size → AF Z T9.heap b1 .byte 8 (fun k => .int (F k)) → nv.toInt = (nn : Int) → nn ≤ 4 → (∀ k, (i ≤ k ∧ k < i + nn) ∨ F k = f8) → (∀ (T8 : State) (L8 : List Loc), Stand p l e room_1 s m #[(.int vc), (.int va), (.int vf)] below meth c T8 L8 (0 + 1) (0 + 8) → Fr n0 L8 → Ends p.tables e below G (T8.setTop (mkF m 301 #[iv vc, iv va, iv vf, iv cd, iv atv, iv f8, rv b1, iv nv, iv ne, iv (F i &&& (255 : Int32)), iv (F (i + 1) &&& (255 : Int32)), iv (F (i + 2) &&& (255 : Int32)), iv (F (i + 3) &&& (255 : Int32))] []))) → Ends p.tables e below G (T9.setTop (mkF m 127 #[iv vc, iv va, iv vf, iv cd, iv atv, iv f8, rv b1, iv nv, iv ne, un, un, un, un] [])) := by
    intro T9 L9 nv ne nn F X9 N9 sz9 V9 hn hn4 hF K9
    refine Ends.go (fun _ => XS.aload X9.here hx rfl (hb hby at_127) rfl rfl) ?_
    show Ends p.tables e below G (T9.setTop (mkF m 129 #[iv vc, iv va, iv vf, iv cd, iv atv, iv f8, rv b1, iv nv, iv ne, un, un, un, un] [(.ref b1)]))
    refine Ends.go (fun _ => XS.iconst X9.here hx rfl (hb hby at_129)) ?_
    show Ends p.tables e below G (T9.setTop (mkF m 130 #[iv vc, iv va, iv vf, iv cd, iv atv, iv f8, rv b1, iv nv, iv ne, un, un, un, un] [(.int (0 : Int32)), (.ref b1)]))
    refine Ends.go (fun _ => XS.iload X9.here hx rfl (hb hby at_130) rfl) ?_
    show Ends p.tables e below G (T9.setTop (mkF m 132 #[iv vc, iv va, iv vf, iv cd, iv atv, iv f8, rv b1, iv nv, iv ne, un, un, un, un] [(.int atv), (.int (0 : Int32)), (.ref b1)]))
    refine Ends.go (fun _ => XS.iload X9.here hx rfl (hb hby at_132) rfl) ?_
    show Ends p.tables e below G (T9.setTop (mkF m 134 #[iv vc, iv va, iv vf, iv cd, iv atv, iv f8, rv b1, iv nv, iv ne, un, un, un, un] [(.int nv), (.int atv), (.int (0 : Int32)), (.ref b1)]))
    refine Ends.go (fun _ => XS.iload X9.here hx rfl (hb hby at_134) rfl) ?_
    show Ends p.tables e below G (T9.setTop (mkF m 136 #[iv vc, iv va, iv vf, iv cd, iv atv, iv f8, rv b1, iv nv, iv ne, un, un, un, un] [(.int f8), (.int nv), (.int atv), (.int (0 : Int32)), (.ref b1)]))
    obtain ⟨_, _, ⟨T10, L10, k10, n10⟩, -, X10, ⟨Lc10, hQ10, l10, y10, z10⟩, st10⟩ := Jvm.LawKit.callS X9 hx (y := (⟨"com/example/belge/belge/XmlScannerUtf8PinLaw", "untouched", "([BIIIB)Z"⟩ : MethodName)) hown (mvT hZ (hw _ (List.mem_of_getElem? (i := 7) rfl))) (mvT hZ (hw _ (List.mem_of_getElem? (i := 8) rfl))) (mvT hZ (hw _ (List.mem_of_getElem? (i := 9) rfl))) (mvT hZ (hw _ (List.mem_of_getElem? (i := 10) rfl))) (by decide) (backOf (W := 0) (rm2 l Z a0 hw [] b1 (0 : Int32) atv nv f8 0 i nn F T9.heap n0 sz9 V9 (by decide) (by decide) hat hi hn hn4 (hF 0)) hZ (hw _ (List.mem_of_getElem? (i := 10) rfl)) (hw _ (List.mem_of_getElem? (i := 9) rfl)) (by decide) (by decide)) (g := (mkF m 136 #[iv vc, iv va, iv vf, iv cd, iv atv, iv f8, rv b1, iv nv, iv ne, un, un, un, un] [(.int f8), (.int nv), (.int atv), (.int (0 : Int32)), (.ref b1)])) rfl (by rw [hml]; rfl) (argsL := [(.ref b1), (.int (0 : Int32)), (.int atv), (.int nv), (.int f8)]) (rest := []) (lenOf pd_1 rfl) rfl (by show 2 * 0 + _ ≤ _; exact Nat.le_of_eq rfl) (hb hby at_136) (fun _ _ => ⟨rfl, rfl, (by decide : (0 + 1) + 0 ≤ _), (by decide : (0 + 8) + 0 ≤ _)⟩)
    dsimp only [Pt.U, Pt.locs, Pt.cells, Pt.slots] at X10 l10 y10 z10 st10 hQ10
    subst l10 y10 z10
    obtain ⟨rfl, N10q, e10⟩ := hQ10
    have N10 := Fr.app N9 N10q
    refine Ends.go (fun _ => st10 _) ?_
    show Ends p.tables e below G (T10.setTop (mkF m 139 #[iv vc, iv va, iv vf, iv cd, iv atv, iv f8, rv b1, iv nv, iv ne, un, un, un, un] [(.int (1 : Int32))]))
    refine Ends.go (fun _ => XS.ifNo X10.here hx rfl (hb hby at_139) rfl ((if0 _ _).trans (feq (by decide : ¬ ((1 : Int32) = (0 : Int32)))).1)) ?_
    show Ends p.tables e below G (T10.setTop (mkF m 142 #[iv vc, iv va, iv vf, iv cd, iv atv, iv f8, rv b1, iv nv, iv ne, un, un, un, un] []))
    refine Ends.go (fun _ => XS.aload X10.here hx rfl (hb hby at_142) rfl rfl) ?_
    show Ends p.tables e below G (T10.setTop (mkF m 144 #[iv vc, iv va, iv vf, iv cd, iv atv, iv f8, rv b1, iv nv, iv ne, un, un, un, un] [(.ref b1)]))
    refine Ends.go (fun _ => XS.iconst X10.here hx rfl (hb hby at_144)) ?_
    show Ends p.tables e below G (T10.setTop (mkF m 145 #[iv vc, iv va, iv vf, iv cd, iv atv, iv f8, rv b1, iv nv, iv ne, un, un, un, un] [(.int (1 : Int32)), (.ref b1)]))
    refine Ends.go (fun _ => XS.iload X10.here hx rfl (hb hby at_145) rfl) ?_
    show Ends p.tables e below G (T10.setTop (mkF m 147 #[iv vc, iv va, iv vf, iv cd, iv atv, iv f8, rv b1, iv nv, iv ne, un, un, un, un] [(.int atv), (.int (1 : Int32)), (.ref b1)]))
    refine Ends.go (fun _ => XS.iload X10.here hx rfl (hb hby at_147) rfl) ?_
    show Ends p.tables e below G (T10.setTop (mkF m 149 #[iv vc, iv va, iv vf, iv cd, iv atv, iv f8, rv b1, iv nv, iv ne, un, un, un, un] [(.int nv), (.int atv), (.int (1 : Int32)), (.ref b1)]))
    refine Ends.go (fun _ => XS.iload X10.here hx rfl (hb hby at_149) rfl) ?_
    show Ends p.tables e below G (T10.setTop (mkF m 151 #[iv vc, iv va, iv vf, iv cd, iv atv, iv f8, rv b1, iv nv, iv ne, un, un, un, un] [(.int f8), (.int nv), (.int atv), (.int (1 : Int32)), (.ref b1)]))
    obtain ⟨_, _, ⟨T11, L11, k11, n11⟩, -, X11, ⟨Lc11, hQ11, l11, y11, z11⟩, st11⟩ := Jvm.LawKit.callS X10 hx (y := (⟨"com/example/belge/belge/XmlScannerUtf8PinLaw", "untouched", "([BIIIB)Z"⟩ : MethodName)) hown (mvT hZ (hw _ (List.mem_of_getElem? (i := 7) rfl))) (mvT hZ (hw _ (List.mem_of_getElem? (i := 8) rfl))) (mvT hZ (hw _ (List.mem_of_getElem? (i := 9) rfl))) (mvT hZ (hw _ (List.mem_of_getElem? (i := 10) rfl))) (by decide) (backOf (W := 0) (rm2 l Z a0 hw [] b1 (1 : Int32) atv nv f8 1 i nn F T9.heap n0 sz9 V9 (by decide) (by decide) hat hi hn hn4 (hF 1)) hZ (hw _ (List.mem_of_getElem? (i := 10) rfl)) (hw _ (List.mem_of_getElem? (i := 9) rfl)) (by decide) (by decide)) (g := (mkF m 151 #[iv vc, iv va, iv vf, iv cd, iv atv, iv f8, rv b1, iv nv, iv ne, un, un, un, un] [(.int f8), (.int nv), (.int atv), (.int (1 : Int32)), (.ref b1)])) rfl (by rw [hml]; rfl) (argsL := [(.ref b1), (.int (1 : Int32)), (.int atv), (.int nv), (.int f8)]) (rest := []) (lenOf pd_1 rfl) rfl (by show 2 * 0 + _ ≤ _; exact Nat.le_of_eq rfl) (hb hby at_151) (fun _ _ => ⟨rfl, e10, (by decide : ((0 + 1) + 0) + 0 ≤ _), (by decide : ((0 + 8) + 0) + 0 ≤ _)⟩)
    dsimp only [Pt.U, Pt.locs, Pt.cells, Pt.slots] at X11 l11 y11 z11 st11 hQ11
    subst l11 y11 z11
    obtain ⟨rfl, N11q, e11⟩ := hQ11
    have N11 := Fr.app N10 N11q
    refine Ends.go (fun _ => st11 _) ?_
    show Ends p.tables e below G (T11.setTop (mkF m 154 #[iv vc, iv va, iv vf, iv cd, iv atv, iv f8, rv b1, iv nv, iv ne, un, un, un, un] [(.int (1 : Int32))]))
    refine Ends.go (fun _ => XS.ifNo X11.here hx rfl (hb hby at_154) rfl ((if0 _ _).trans (feq (by decide : ¬ ((1 : Int32) = (0 : Int32)))).1)) ?_
    show Ends p.tables e below G (T11.setTop (mkF m 157 #[iv vc, iv va, iv vf, iv cd, iv atv, iv f8, rv b1, iv nv, iv ne, un, un, un, un] []))
    refine Ends.go (fun _ => XS.aload X11.here hx rfl (hb hby at_157) rfl rfl) ?_
    show Ends p.tables e below G (T11.setTop (mkF m 159 #[iv vc, iv va, iv vf, iv cd, iv atv, iv f8, rv b1, iv nv, iv ne, un, un, un, un] [(.ref b1)]))
    refine Ends.go (fun _ => XS.iconst X11.here hx rfl (hb hby at_159)) ?_
    show Ends p.tables e below G (T11.setTop (mkF m 160 #[iv vc, iv va, iv vf, iv cd, iv atv, iv f8, rv b1, iv nv, iv ne, un, un, un, un] [(.int (2 : Int32)), (.ref b1)]))
    refine Ends.go (fun _ => XS.iload X11.here hx rfl (hb hby at_160) rfl) ?_
    show Ends p.tables e below G (T11.setTop (mkF m 162 #[iv vc, iv va, iv vf, iv cd, iv atv, iv f8, rv b1, iv nv, iv ne, un, un, un, un] [(.int atv), (.int (2 : Int32)), (.ref b1)]))
    refine Ends.go (fun _ => XS.iload X11.here hx rfl (hb hby at_162) rfl) ?_
    show Ends p.tables e below G (T11.setTop (mkF m 164 #[iv vc, iv va, iv vf, iv cd, iv atv, iv f8, rv b1, iv nv, iv ne, un, un, un, un] [(.int nv), (.int atv), (.int (2 : Int32)), (.ref b1)]))
    refine Ends.go (fun _ => XS.iload X11.here hx rfl (hb hby at_164) rfl) ?_
    show Ends p.tables e below G (T11.setTop (mkF m 166 #[iv vc, iv va, iv vf, iv cd, iv atv, iv f8, rv b1, iv nv, iv ne, un, un, un, un] [(.int f8), (.int nv), (.int atv), (.int (2 : Int32)), (.ref b1)]))
    obtain ⟨_, _, ⟨T12, L12, k12, n12⟩, -, X12, ⟨Lc12, hQ12, l12, y12, z12⟩, st12⟩ := Jvm.LawKit.callS X11 hx (y := (⟨"com/example/belge/belge/XmlScannerUtf8PinLaw", "untouched", "([BIIIB)Z"⟩ : MethodName)) hown (mvT hZ (hw _ (List.mem_of_getElem? (i := 7) rfl))) (mvT hZ (hw _ (List.mem_of_getElem? (i := 8) rfl))) (mvT hZ (hw _ (List.mem_of_getElem? (i := 9) rfl))) (mvT hZ (hw _ (List.mem_of_getElem? (i := 10) rfl))) (by decide) (backOf (W := 0) (rm2 l Z a0 hw [] b1 (2 : Int32) atv nv f8 2 i nn F T9.heap n0 sz9 V9 (by decide) (by decide) hat hi hn hn4 (hF 2)) hZ (hw _ (List.mem_of_getElem? (i := 10) rfl)) (hw _ (List.mem_of_getElem? (i := 9) rfl)) (by decide) (by decide)) (g := (mkF m 166 #[iv vc, iv va, iv vf, iv cd, iv atv, iv f8, rv b1, iv nv, iv ne, un, un, un, un] [(.int f8), (.int nv), (.int atv), (.int (2 : Int32)), (.ref b1)])) rfl (by rw [hml]; rfl) (argsL := [(.ref b1), (.int (2 : Int32)), (.int atv), (.int nv), (.int f8)]) (rest := []) (lenOf pd_1 rfl) rfl (by show 2 * 0 + _ ≤ _; exact Nat.le_of_eq rfl) (hb hby at_166) (fun _ _ => ⟨rfl, e11, (by decide : (((0 + 1) + 0) + 0) + 0 ≤ _), (by decide : (((0 + 8) + 0) + 0) + 0 ≤ _)⟩)
    dsimp only [Pt.U, Pt.locs, Pt.cells, Pt.slots] at X12 l12 y12 z12 st12 hQ12
    subst l12 y12 z12
    obtain ⟨rfl, N12q, e12⟩ := hQ12
    have N12 := Fr.app N11 N12q
    refine Ends.go (fun _ => st12 _) ?_
    show Ends p.tables e below G (T12.setTop (mkF m 169 #[iv vc, iv va, iv vf, iv cd, iv atv, iv f8, rv b1, iv nv, iv ne, un, un, un, un] [(.int (1 : Int32))]))
    refine Ends.go (fun _ => XS.ifNo X12.here hx rfl (hb hby at_169) rfl ((if0 _ _).trans (feq (by decide : ¬ ((1 : Int32) = (0 : Int32)))).1)) ?_
    show Ends p.tables e below G (T12.setTop (mkF m 172 #[iv vc, iv va, iv vf, iv cd, iv atv, iv f8, rv b1, iv nv, iv ne, un, un, un, un] []))
    refine Ends.go (fun _ => XS.aload X12.here hx rfl (hb hby at_172) rfl rfl) ?_
    show Ends p.tables e below G (T12.setTop (mkF m 174 #[iv vc, iv va, iv vf, iv cd, iv atv, iv f8, rv b1, iv nv, iv ne, un, un, un, un] [(.ref b1)]))
    refine Ends.go (fun _ => XS.iconst X12.here hx rfl (hb hby at_174)) ?_
    show Ends p.tables e below G (T12.setTop (mkF m 175 #[iv vc, iv va, iv vf, iv cd, iv atv, iv f8, rv b1, iv nv, iv ne, un, un, un, un] [(.int (3 : Int32)), (.ref b1)]))
    refine Ends.go (fun _ => XS.iload X12.here hx rfl (hb hby at_175) rfl) ?_
    show Ends p.tables e below G (T12.setTop (mkF m 177 #[iv vc, iv va, iv vf, iv cd, iv atv, iv f8, rv b1, iv nv, iv ne, un, un, un, un] [(.int atv), (.int (3 : Int32)), (.ref b1)]))
    refine Ends.go (fun _ => XS.iload X12.here hx rfl (hb hby at_177) rfl) ?_
    show Ends p.tables e below G (T12.setTop (mkF m 179 #[iv vc, iv va, iv vf, iv cd, iv atv, iv f8, rv b1, iv nv, iv ne, un, un, un, un] [(.int nv), (.int atv), (.int (3 : Int32)), (.ref b1)]))
    refine Ends.go (fun _ => XS.iload X12.here hx rfl (hb hby at_179) rfl) ?_
    show Ends p.tables e below G (T12.setTop (mkF m 181 #[iv vc, iv va, iv vf, iv cd, iv atv, iv f8, rv b1, iv nv, iv ne, un, un, un, un] [(.int f8), (.int nv), (.int atv), (.int (3 : Int32)), (.ref b1)]))
    obtain ⟨_, _, ⟨T13, L13, k13, n13⟩, -, X13, ⟨Lc13, hQ13, l13, y13, z13⟩, st13⟩ := Jvm.LawKit.callS X12 hx (y := (⟨"com/example/belge/belge/XmlScannerUtf8PinLaw", "untouched", "([BIIIB)Z"⟩ : MethodName)) hown (mvT hZ (hw _ (List.mem_of_getElem? (i := 7) rfl))) (mvT hZ (hw _ (List.mem_of_getElem? (i := 8) rfl))) (mvT hZ (hw _ (List.mem_of_getElem? (i := 9) rfl))) (mvT hZ (hw _ (List.mem_of_getElem? (i := 10) rfl))) (by decide) (backOf (W := 0) (rm2 l Z a0 hw [] b1 (3 : Int32) atv nv f8 3 i nn F T9.heap n0 sz9 V9 (by decide) (by decide) hat hi hn hn4 (hF 3)) hZ (hw _ (List.mem_of_getElem? (i := 10) rfl)) (hw _ (List.mem_of_getElem? (i := 9) rfl)) (by decide) (by decide)) (g := (mkF m 181 #[iv vc, iv va, iv vf, iv cd, iv atv, iv f8, rv b1, iv nv, iv ne, un, un, un, un] [(.int f8), (.int nv), (.int atv), (.int (3 : Int32)), (.ref b1)])) rfl (by rw [hml]; rfl) (argsL := [(.ref b1), (.int (3 : Int32)), (.int atv), (.int nv), (.int f8)]) (rest := []) (lenOf pd_1 rfl) rfl (by show 2 * 0 + _ ≤ _; exact Nat.le_of_eq rfl) (hb hby at_181) (fun _ _ => ⟨rfl, e12, (by decide : ((((0 + 1) + 0) + 0) + 0) + 0 ≤ _), (by decide : ((((0 + 8) + 0) + 0) + 0) + 0 ≤ _)⟩)
    dsimp only [Pt.U, Pt.locs, Pt.cells, Pt.slots] at X13 l13 y13 z13 st13 hQ13
    subst l13 y13 z13
    obtain ⟨rfl, N13q, e13⟩ := hQ13
    have N13 := Fr.app N12 N13q
    refine Ends.go (fun _ => st13 _) ?_
    show Ends p.tables e below G (T13.setTop (mkF m 184 #[iv vc, iv va, iv vf, iv cd, iv atv, iv f8, rv b1, iv nv, iv ne, un, un, un, un] [(.int (1 : Int32))]))
    refine Ends.go (fun _ => XS.ifNo X13.here hx rfl (hb hby at_184) rfl ((if0 _ _).trans (feq (by decide : ¬ ((1 : Int32) = (0 : Int32)))).1)) ?_
    show Ends p.tables e below G (T13.setTop (mkF m 187 #[iv vc, iv va, iv vf, iv cd, iv atv, iv f8, rv b1, iv nv, iv ne, un, un, un, un] []))
    refine Ends.go (fun _ => XS.aload X13.here hx rfl (hb hby at_187) rfl rfl) ?_
    show Ends p.tables e below G (T13.setTop (mkF m 189 #[iv vc, iv va, iv vf, iv cd, iv atv, iv f8, rv b1, iv nv, iv ne, un, un, un, un] [(.ref b1)]))
    refine Ends.go (fun _ => XS.iconst X13.here hx rfl (hb hby at_189)) ?_
    show Ends p.tables e below G (T13.setTop (mkF m 190 #[iv vc, iv va, iv vf, iv cd, iv atv, iv f8, rv b1, iv nv, iv ne, un, un, un, un] [(.int (4 : Int32)), (.ref b1)]))
    refine Ends.go (fun _ => XS.iload X13.here hx rfl (hb hby at_190) rfl) ?_
    show Ends p.tables e below G (T13.setTop (mkF m 192 #[iv vc, iv va, iv vf, iv cd, iv atv, iv f8, rv b1, iv nv, iv ne, un, un, un, un] [(.int atv), (.int (4 : Int32)), (.ref b1)]))
    refine Ends.go (fun _ => XS.iload X13.here hx rfl (hb hby at_192) rfl) ?_
    show Ends p.tables e below G (T13.setTop (mkF m 194 #[iv vc, iv va, iv vf, iv cd, iv atv, iv f8, rv b1, iv nv, iv ne, un, un, un, un] [(.int nv), (.int atv), (.int (4 : Int32)), (.ref b1)]))
    refine Ends.go (fun _ => XS.iload X13.here hx rfl (hb hby at_194) rfl) ?_
    show Ends p.tables e below G (T13.setTop (mkF m 196 #[iv vc, iv va, iv vf, iv cd, iv atv, iv f8, rv b1, iv nv, iv ne, un, un, un, un] [(.int f8), (.int nv), (.int atv), (.int (4 : Int32)), (.ref b1)]))
    obtain ⟨_, _, ⟨T14, L14, k14, n14⟩, -, X14, ⟨Lc14, hQ14, l14, y14, z14⟩, st14⟩ := Jvm.LawKit.callS X13 hx (y := (⟨"com/example/belge/belge/XmlScannerUtf8PinLaw", "untouched", "([BIIIB)Z"⟩ : MethodName)) hown (mvT hZ (hw _ (List.mem_of_getElem? (i := 7) rfl))) (mvT hZ (hw _ (List.mem_of_getElem? (i := 8) rfl))) (mvT hZ (hw _ (List.mem_of_getElem? (i := 9) rfl))) (mvT hZ (hw _ (List.mem_of_getElem? (i := 10) rfl))) (by decide) (backOf (W := 0) (rm2 l Z a0 hw [] b1 (4 : Int32) atv nv f8 4 i nn F T9.heap n0 sz9 V9 (by decide) (by decide) hat hi hn hn4 (hF 4)) hZ (hw _ (List.mem_of_getElem? (i := 10) rfl)) (hw _ (List.mem_of_getElem? (i := 9) rfl)) (by decide) (by decide)) (g := (mkF m 196 #[iv vc, iv va, iv vf, iv cd, iv atv, iv f8, rv b1, iv nv, iv ne, un, un, un, un] [(.int f8), (.int nv), (.int atv), (.int (4 : Int32)), (.ref b1)])) rfl (by rw [hml]; rfl) (argsL := [(.ref b1), (.int (4 : Int32)), (.int atv), (.int nv), (.int f8)]) (rest := []) (lenOf pd_1 rfl) rfl (by show 2 * 0 + _ ≤ _; exact Nat.le_of_eq rfl) (hb hby at_196) (fun _ _ => ⟨rfl, e13, (by decide : (((((0 + 1) + 0) + 0) + 0) + 0) + 0 ≤ _), (by decide : (((((0 + 8) + 0) + 0) + 0) + 0) + 0 ≤ _)⟩)
    dsimp only [Pt.U, Pt.locs, Pt.cells, Pt.slots] at X14 l14 y14 z14 st14 hQ14
    subst l14 y14 z14
    obtain ⟨rfl, N14q, e14⟩ := hQ14
    have N14 := Fr.app N13 N14q
    refine Ends.go (fun _ => st14 _) ?_
    show Ends p.tables e below G (T14.setTop (mkF m 199 #[iv vc, iv va, iv vf, iv cd, iv atv, iv f8, rv b1, iv nv, iv ne, un, un, un, un] [(.int (1 : Int32))]))
    refine Ends.go (fun _ => XS.ifNo X14.here hx rfl (hb hby at_199) rfl ((if0 _ _).trans (feq (by decide : ¬ ((1 : Int32) = (0 : Int32)))).1)) ?_
    show Ends p.tables e below G (T14.setTop (mkF m 202 #[iv vc, iv va, iv vf, iv cd, iv atv, iv f8, rv b1, iv nv, iv ne, un, un, un, un] []))
    refine Ends.go (fun _ => XS.aload X14.here hx rfl (hb hby at_202) rfl rfl) ?_
    show Ends p.tables e below G (T14.setTop (mkF m 204 #[iv vc, iv va, iv vf, iv cd, iv atv, iv f8, rv b1, iv nv, iv ne, un, un, un, un] [(.ref b1)]))
    refine Ends.go (fun _ => XS.iconst X14.here hx rfl (hb hby at_204)) ?_
    show Ends p.tables e below G (T14.setTop (mkF m 205 #[iv vc, iv va, iv vf, iv cd, iv atv, iv f8, rv b1, iv nv, iv ne, un, un, un, un] [(.int (5 : Int32)), (.ref b1)]))
    refine Ends.go (fun _ => XS.iload X14.here hx rfl (hb hby at_205) rfl) ?_
    show Ends p.tables e below G (T14.setTop (mkF m 207 #[iv vc, iv va, iv vf, iv cd, iv atv, iv f8, rv b1, iv nv, iv ne, un, un, un, un] [(.int atv), (.int (5 : Int32)), (.ref b1)]))
    refine Ends.go (fun _ => XS.iload X14.here hx rfl (hb hby at_207) rfl) ?_
    show Ends p.tables e below G (T14.setTop (mkF m 209 #[iv vc, iv va, iv vf, iv cd, iv atv, iv f8, rv b1, iv nv, iv ne, un, un, un, un] [(.int nv), (.int atv), (.int (5 : Int32)), (.ref b1)]))
    refine Ends.go (fun _ => XS.iload X14.here hx rfl (hb hby at_209) rfl) ?_
    show Ends p.tables e below G (T14.setTop (mkF m 211 #[iv vc, iv va, iv vf, iv cd, iv atv, iv f8, rv b1, iv nv, iv ne, un, un, un, un] [(.int f8), (.int nv), (.int atv), (.int (5 : Int32)), (.ref b1)]))
    obtain ⟨_, _, ⟨T15, L15, k15, n15⟩, -, X15, ⟨Lc15, hQ15, l15, y15, z15⟩, st15⟩ := Jvm.LawKit.callS X14 hx (y := (⟨"com/example/belge/belge/XmlScannerUtf8PinLaw", "untouched", "([BIIIB)Z"⟩ : MethodName)) hown (mvT hZ (hw _ (List.mem_of_getElem? (i := 7) rfl))) (mvT hZ (hw _ (List.mem_of_getElem? (i := 8) rfl))) (mvT hZ (hw _ (List.mem_of_getElem? (i := 9) rfl))) (mvT hZ (hw _ (List.mem_of_getElem? (i := 10) rfl))) (by decide) (backOf (W := 0) (rm2 l Z a0 hw [] b1 (5 : Int32) atv nv f8 5 i nn F T9.heap n0 sz9 V9 (by decide) (by decide) hat hi hn hn4 (hF 5)) hZ (hw _ (List.mem_of_getElem? (i := 10) rfl)) (hw _ (List.mem_of_getElem? (i := 9) rfl)) (by decide) (by decide)) (g := (mkF m 211 #[iv vc, iv va, iv vf, iv cd, iv atv, iv f8, rv b1, iv nv, iv ne, un, un, un, un] [(.int f8), (.int nv), (.int atv), (.int (5 : Int32)), (.ref b1)])) rfl (by rw [hml]; rfl) (argsL := [(.ref b1), (.int (5 : Int32)), (.int atv), (.int nv), (.int f8)]) (rest := []) (lenOf pd_1 rfl) rfl (by show 2 * 0 + _ ≤ _; exact Nat.le_of_eq rfl) (hb hby at_211) (fun _ _ => ⟨rfl, e14, (by decide : ((((((0 + 1) + 0) + 0) + 0) + 0) + 0) + 0 ≤ _), (by decide : ((((((0 + 8) + 0) + 0) + 0) + 0) + 0) + 0 ≤ _)⟩)
    dsimp only [Pt.U, Pt.locs, Pt.cells, Pt.slots] at X15 l15 y15 z15 st15 hQ15
    subst l15 y15 z15
    obtain ⟨rfl, N15q, e15⟩ := hQ15
    have N15 := Fr.app N14 N15q
    refine Ends.go (fun _ => st15 _) ?_
    show Ends p.tables e below G (T15.setTop (mkF m 214 #[iv vc, iv va, iv vf, iv cd, iv atv, iv f8, rv b1, iv nv, iv ne, un, un, un, un] [(.int (1 : Int32))]))
    refine Ends.go (fun _ => XS.ifNo X15.here hx rfl (hb hby at_214) rfl ((if0 _ _).trans (feq (by decide : ¬ ((1 : Int32) = (0 : Int32)))).1)) ?_
    show Ends p.tables e below G (T15.setTop (mkF m 217 #[iv vc, iv va, iv vf, iv cd, iv atv, iv f8, rv b1, iv nv, iv ne, un, un, un, un] []))
    refine Ends.go (fun _ => XS.aload X15.here hx rfl (hb hby at_217) rfl rfl) ?_
    show Ends p.tables e below G (T15.setTop (mkF m 219 #[iv vc, iv va, iv vf, iv cd, iv atv, iv f8, rv b1, iv nv, iv ne, un, un, un, un] [(.ref b1)]))
    refine Ends.go (fun _ => XS.bipush X15.here hx rfl (hb hby at_219)) ?_
    show Ends p.tables e below G (T15.setTop (mkF m 221 #[iv vc, iv va, iv vf, iv cd, iv atv, iv f8, rv b1, iv nv, iv ne, un, un, un, un] [(.int (6 : Int32)), (.ref b1)]))
    refine Ends.go (fun _ => XS.iload X15.here hx rfl (hb hby at_221) rfl) ?_
    show Ends p.tables e below G (T15.setTop (mkF m 223 #[iv vc, iv va, iv vf, iv cd, iv atv, iv f8, rv b1, iv nv, iv ne, un, un, un, un] [(.int atv), (.int (6 : Int32)), (.ref b1)]))
    refine Ends.go (fun _ => XS.iload X15.here hx rfl (hb hby at_223) rfl) ?_
    show Ends p.tables e below G (T15.setTop (mkF m 225 #[iv vc, iv va, iv vf, iv cd, iv atv, iv f8, rv b1, iv nv, iv ne, un, un, un, un] [(.int nv), (.int atv), (.int (6 : Int32)), (.ref b1)]))
    refine Ends.go (fun _ => XS.iload X15.here hx rfl (hb hby at_225) rfl) ?_
    show Ends p.tables e below G (T15.setTop (mkF m 227 #[iv vc, iv va, iv vf, iv cd, iv atv, iv f8, rv b1, iv nv, iv ne, un, un, un, un] [(.int f8), (.int nv), (.int atv), (.int (6 : Int32)), (.ref b1)]))
    obtain ⟨_, _, ⟨T16, L16, k16, n16⟩, -, X16, ⟨Lc16, hQ16, l16, y16, z16⟩, st16⟩ := Jvm.LawKit.callS X15 hx (y := (⟨"com/example/belge/belge/XmlScannerUtf8PinLaw", "untouched", "([BIIIB)Z"⟩ : MethodName)) hown (mvT hZ (hw _ (List.mem_of_getElem? (i := 7) rfl))) (mvT hZ (hw _ (List.mem_of_getElem? (i := 8) rfl))) (mvT hZ (hw _ (List.mem_of_getElem? (i := 9) rfl))) (mvT hZ (hw _ (List.mem_of_getElem? (i := 10) rfl))) (by decide) (backOf (W := 0) (rm2 l Z a0 hw [] b1 (6 : Int32) atv nv f8 6 i nn F T9.heap n0 sz9 V9 (by decide) (by decide) hat hi hn hn4 (hF 6)) hZ (hw _ (List.mem_of_getElem? (i := 10) rfl)) (hw _ (List.mem_of_getElem? (i := 9) rfl)) (by decide) (by decide)) (g := (mkF m 227 #[iv vc, iv va, iv vf, iv cd, iv atv, iv f8, rv b1, iv nv, iv ne, un, un, un, un] [(.int f8), (.int nv), (.int atv), (.int (6 : Int32)), (.ref b1)])) rfl (by rw [hml]; rfl) (argsL := [(.ref b1), (.int (6 : Int32)), (.int atv), (.int nv), (.int f8)]) (rest := []) (lenOf pd_1 rfl) rfl (by show 2 * 0 + _ ≤ _; exact Nat.le_of_eq rfl) (hb hby at_227) (fun _ _ => ⟨rfl, e15, (by decide : (((((((0 + 1) + 0) + 0) + 0) + 0) + 0) + 0) + 0 ≤ _), (by decide : (((((((0 + 8) + 0) + 0) + 0) + 0) + 0) + 0) + 0 ≤ _)⟩)
    dsimp only [Pt.U, Pt.locs, Pt.cells, Pt.slots] at X16 l16 y16 z16 st16 hQ16
    subst l16 y16 z16
    obtain ⟨rfl, N16q, e16⟩ := hQ16
    have N16 := Fr.app N15 N16q
    refine Ends.go (fun _ => st16 _) ?_
    show Ends p.tables e below G (T16.setTop (mkF m 230 #[iv vc, iv va, iv vf, iv cd, iv atv, iv f8, rv b1, iv nv, iv ne, un, un, un, un] [(.int (1 : Int32))]))
    refine Ends.go (fun _ => XS.ifNo X16.here hx rfl (hb hby at_230) rfl ((if0 _ _).trans (feq (by decide : ¬ ((1 : Int32) = (0 : Int32)))).1)) ?_
    show Ends p.tables e below G (T16.setTop (mkF m 233 #[iv vc, iv va, iv vf, iv cd, iv atv, iv f8, rv b1, iv nv, iv ne, un, un, un, un] []))
    refine Ends.go (fun _ => XS.aload X16.here hx rfl (hb hby at_233) rfl rfl) ?_
    show Ends p.tables e below G (T16.setTop (mkF m 235 #[iv vc, iv va, iv vf, iv cd, iv atv, iv f8, rv b1, iv nv, iv ne, un, un, un, un] [(.ref b1)]))
    refine Ends.go (fun _ => XS.bipush X16.here hx rfl (hb hby at_235)) ?_
    show Ends p.tables e below G (T16.setTop (mkF m 237 #[iv vc, iv va, iv vf, iv cd, iv atv, iv f8, rv b1, iv nv, iv ne, un, un, un, un] [(.int (7 : Int32)), (.ref b1)]))
    refine Ends.go (fun _ => XS.iload X16.here hx rfl (hb hby at_237) rfl) ?_
    show Ends p.tables e below G (T16.setTop (mkF m 239 #[iv vc, iv va, iv vf, iv cd, iv atv, iv f8, rv b1, iv nv, iv ne, un, un, un, un] [(.int atv), (.int (7 : Int32)), (.ref b1)]))
    refine Ends.go (fun _ => XS.iload X16.here hx rfl (hb hby at_239) rfl) ?_
    show Ends p.tables e below G (T16.setTop (mkF m 241 #[iv vc, iv va, iv vf, iv cd, iv atv, iv f8, rv b1, iv nv, iv ne, un, un, un, un] [(.int nv), (.int atv), (.int (7 : Int32)), (.ref b1)]))
    refine Ends.go (fun _ => XS.iload X16.here hx rfl (hb hby at_241) rfl) ?_
    show Ends p.tables e below G (T16.setTop (mkF m 243 #[iv vc, iv va, iv vf, iv cd, iv atv, iv f8, rv b1, iv nv, iv ne, un, un, un, un] [(.int f8), (.int nv), (.int atv), (.int (7 : Int32)), (.ref b1)]))
    obtain ⟨_, _, ⟨T17, L17, k17, n17⟩, -, X17, ⟨Lc17, hQ17, l17, y17, z17⟩, st17⟩ := Jvm.LawKit.callS X16 hx (y := (⟨"com/example/belge/belge/XmlScannerUtf8PinLaw", "untouched", "([BIIIB)Z"⟩ : MethodName)) hown (mvT hZ (hw _ (List.mem_of_getElem? (i := 7) rfl))) (mvT hZ (hw _ (List.mem_of_getElem? (i := 8) rfl))) (mvT hZ (hw _ (List.mem_of_getElem? (i := 9) rfl))) (mvT hZ (hw _ (List.mem_of_getElem? (i := 10) rfl))) (by decide) (backOf (W := 0) (rm2 l Z a0 hw [] b1 (7 : Int32) atv nv f8 7 i nn F T9.heap n0 sz9 V9 (by decide) (by decide) hat hi hn hn4 (hF 7)) hZ (hw _ (List.mem_of_getElem? (i := 10) rfl)) (hw _ (List.mem_of_getElem? (i := 9) rfl)) (by decide) (by decide)) (g := (mkF m 243 #[iv vc, iv va, iv vf, iv cd, iv atv, iv f8, rv b1, iv nv, iv ne, un, un, un, un] [(.int f8), (.int nv), (.int atv), (.int (7 : Int32)), (.ref b1)])) rfl (by rw [hml]; rfl) (argsL := [(.ref b1), (.int (7 : Int32)), (.int atv), (.int nv), (.int f8)]) (rest := []) (lenOf pd_1 rfl) rfl (by show 2 * 0 + _ ≤ _; exact Nat.le_of_eq rfl) (hb hby at_243) (fun _ _ => ⟨rfl, e16, (by decide : ((((((((0 + 1) + 0) + 0) + 0) + 0) + 0) + 0) + 0) + 0 ≤ _), (by decide : ((((((((0 + 8) + 0) + 0) + 0) + 0) + 0) + 0) + 0) + 0 ≤ _)⟩)
    dsimp only [Pt.U, Pt.locs, Pt.cells, Pt.slots] at X17 l17 y17 z17 st17 hQ17
    subst l17 y17 z17
    obtain ⟨rfl, N17q, e17⟩ := hQ17
    have N17 := Fr.app N16 N17q
    refine Ends.go (fun _ => st17 _) ?_
    show Ends p.tables e below G (T17.setTop (mkF m 246 #[iv vc, iv va, iv vf, iv cd, iv atv, iv f8, rv b1, iv nv, iv ne, un, un, un, un] [(.int (1 : Int32))]))
    refine Ends.go (fun _ => XS.ifYes X17.here hx rfl (pc0 := 246) (pc' := 251) rfl (hb hby at_246) rfl ((if0 _ _).trans (feq (by decide : ¬ ((1 : Int32) = (0 : Int32)))).2) (by decide) (by decide)) ?_
    show Ends p.tables e below G (T17.setTop (mkF m 251 #[iv vc, iv va, iv vf, iv cd, iv atv, iv f8, rv b1, iv nv, iv ne, un, un, un, un] []))
    refine Ends.go (fun _ => XS.aload X17.here hx rfl (hb hby at_251) rfl rfl) ?_
    show Ends p.tables e below G (T17.setTop (mkF m 253 #[iv vc, iv va, iv vf, iv cd, iv atv, iv f8, rv b1, iv nv, iv ne, un, un, un, un] [(.ref b1)]))
    refine Ends.go (fun _ => XS.iload X17.here hx rfl (hb hby at_253) rfl) ?_
    show Ends p.tables e below G (T17.setTop (mkF m 255 #[iv vc, iv va, iv vf, iv cd, iv atv, iv f8, rv b1, iv nv, iv ne, un, un, un, un] [(.int atv), (.ref b1)]))
    refine Ends.go (fun _ => AF.ldB V9 X17 hx hZ e17 (j := atv) (i := i) hat (by omega) (v := (.int (F i))) rfl (g := (mkF m 255 #[iv vc, iv va, iv vf, iv cd, iv atv, iv f8, rv b1, iv nv, iv ne, un, un, un, un] [(.int atv), (.ref b1)])) rfl rfl (hb hby at_255) _) ?_
    show Ends p.tables e below G (T17.setTop (mkF m 256 #[iv vc, iv va, iv vf, iv cd, iv atv, iv f8, rv b1, iv nv, iv ne, un, un, un, un] [(.int (F i))]))
    refine Ends.go (fun _ => XS.sipush X17.here hx rfl (hb hby at_256)) ?_
    show Ends p.tables e below G (T17.setTop (mkF m 259 #[iv vc, iv va, iv vf, iv cd, iv atv, iv f8, rv b1, iv nv, iv ne, un, un, un, un] [(.int (255 : Int32)), (.int (F i))]))
    refine Ends.go (fun _ => XS.iand X17.here hx rfl (hb hby at_259) rfl) ?_
    show Ends p.tables e below G (T17.setTop (mkF m 260 #[iv vc, iv va, iv vf, iv cd, iv atv, iv f8, rv b1, iv nv, iv ne, un, un, un, un] [(.int ((F i) &&& (255 : Int32)))]))
    refine Ends.go (fun _ => XS.istore X17.here hx rfl (hb hby at_260) rfl (l' := #[iv vc, iv va, iv vf, iv cd, iv atv, iv f8, rv b1, iv nv, iv ne, iv ((F i) &&& (255 : Int32)), un, un, un]) rfl) ?_
    show Ends p.tables e below G (T17.setTop (mkF m 262 #[iv vc, iv va, iv vf, iv cd, iv atv, iv f8, rv b1, iv nv, iv ne, iv ((F i) &&& (255 : Int32)), un, un, un] []))
    refine Ends.go (fun _ => XS.aload X17.here hx rfl (hb hby at_262) rfl rfl) ?_
    show Ends p.tables e below G (T17.setTop (mkF m 264 #[iv vc, iv va, iv vf, iv cd, iv atv, iv f8, rv b1, iv nv, iv ne, iv ((F i) &&& (255 : Int32)), un, un, un] [(.ref b1)]))
    refine Ends.go (fun _ => XS.iload X17.here hx rfl (hb hby at_264) rfl) ?_
    show Ends p.tables e below G (T17.setTop (mkF m 266 #[iv vc, iv va, iv vf, iv cd, iv atv, iv f8, rv b1, iv nv, iv ne, iv ((F i) &&& (255 : Int32)), un, un, un] [(.int atv), (.ref b1)]))
    refine Ends.go (fun _ => XS.iconst X17.here hx rfl (hb hby at_266)) ?_
    show Ends p.tables e below G (T17.setTop (mkF m 267 #[iv vc, iv va, iv vf, iv cd, iv atv, iv f8, rv b1, iv nv, iv ne, iv ((F i) &&& (255 : Int32)), un, un, un] [(.int (1 : Int32)), (.int atv), (.ref b1)]))
    refine Ends.go (fun _ => XS.iadd X17.here hx rfl (hb hby at_267) rfl) ?_
    show Ends p.tables e below G (T17.setTop (mkF m 268 #[iv vc, iv va, iv vf, iv cd, iv atv, iv f8, rv b1, iv nv, iv ne, iv ((F i) &&& (255 : Int32)), un, un, un] [(.int (atv + (1 : Int32))), (.ref b1)]))
    refine Ends.go (fun _ => AF.ldB V9 X17 hx hZ e17 (j := (atv + (1 : Int32))) (i := (i + 1)) (own_add hat (b := 1) rfl (by omega)) (by omega) (v := (.int (F (i + 1)))) rfl (g := (mkF m 268 #[iv vc, iv va, iv vf, iv cd, iv atv, iv f8, rv b1, iv nv, iv ne, iv ((F i) &&& (255 : Int32)), un, un, un] [(.int (atv + (1 : Int32))), (.ref b1)])) rfl rfl (hb hby at_268) _) ?_
    show Ends p.tables e below G (T17.setTop (mkF m 269 #[iv vc, iv va, iv vf, iv cd, iv atv, iv f8, rv b1, iv nv, iv ne, iv ((F i) &&& (255 : Int32)), un, un, un] [(.int (F (i + 1)))]))
    refine Ends.go (fun _ => XS.sipush X17.here hx rfl (hb hby at_269)) ?_
    show Ends p.tables e below G (T17.setTop (mkF m 272 #[iv vc, iv va, iv vf, iv cd, iv atv, iv f8, rv b1, iv nv, iv ne, iv ((F i) &&& (255 : Int32)), un, un, un] [(.int (255 : Int32)), (.int (F (i + 1)))]))
    refine Ends.go (fun _ => XS.iand X17.here hx rfl (hb hby at_272) rfl) ?_
    show Ends p.tables e below G (T17.setTop (mkF m 273 #[iv vc, iv va, iv vf, iv cd, iv atv, iv f8, rv b1, iv nv, iv ne, iv ((F i) &&& (255 : Int32)), un, un, un] [(.int ((F (i + 1)) &&& (255 : Int32)))]))
    refine Ends.go (fun _ => XS.istore X17.here hx rfl (hb hby at_273) rfl (l' := #[iv vc, iv va, iv vf, iv cd, iv atv, iv f8, rv b1, iv nv, iv ne, iv ((F i) &&& (255 : Int32)), iv ((F (i + 1)) &&& (255 : Int32)), un, un]) rfl) ?_
    show Ends p.tables e below G (T17.setTop (mkF m 275 #[iv vc, iv va, iv vf, iv cd, iv atv, iv f8, rv b1, iv nv, iv ne, iv ((F i) &&& (255 : Int32)), iv ((F (i + 1)) &&& (255 : Int32)), un, un] []))
    refine Ends.go (fun _ => XS.aload X17.here hx rfl (hb hby at_275) rfl rfl) ?_
    show Ends p.tables e below G (T17.setTop (mkF m 277 #[iv vc, iv va, iv vf, iv cd, iv atv, iv f8, rv b1, iv nv, iv ne, iv ((F i) &&& (255 : Int32)), iv ((F (i + 1)) &&& (255 : Int32)), un, un] [(.ref b1)]))
    refine Ends.go (fun _ => XS.iload X17.here hx rfl (hb hby at_277) rfl) ?_
    show Ends p.tables e below G (T17.setTop (mkF m 279 #[iv vc, iv va, iv vf, iv cd, iv atv, iv f8, rv b1, iv nv, iv ne, iv ((F i) &&& (255 : Int32)), iv ((F (i + 1)) &&& (255 : Int32)), un, un] [(.int atv), (.ref b1)]))
    refine Ends.go (fun _ => XS.iconst X17.here hx rfl (hb hby at_279)) ?_
    show Ends p.tables e below G (T17.setTop (mkF m 280 #[iv vc, iv va, iv vf, iv cd, iv atv, iv f8, rv b1, iv nv, iv ne, iv ((F i) &&& (255 : Int32)), iv ((F (i + 1)) &&& (255 : Int32)), un, un] [(.int (2 : Int32)), (.int atv), (.ref b1)]))
    refine Ends.go (fun _ => XS.iadd X17.here hx rfl (hb hby at_280) rfl) ?_
    show Ends p.tables e below G (T17.setTop (mkF m 281 #[iv vc, iv va, iv vf, iv cd, iv atv, iv f8, rv b1, iv nv, iv ne, iv ((F i) &&& (255 : Int32)), iv ((F (i + 1)) &&& (255 : Int32)), un, un] [(.int (atv + (2 : Int32))), (.ref b1)]))
    refine Ends.go (fun _ => AF.ldB V9 X17 hx hZ e17 (j := (atv + (2 : Int32))) (i := (i + 2)) (own_add hat (b := 2) rfl (by omega)) (by omega) (v := (.int (F (i + 2)))) rfl (g := (mkF m 281 #[iv vc, iv va, iv vf, iv cd, iv atv, iv f8, rv b1, iv nv, iv ne, iv ((F i) &&& (255 : Int32)), iv ((F (i + 1)) &&& (255 : Int32)), un, un] [(.int (atv + (2 : Int32))), (.ref b1)])) rfl rfl (hb hby at_281) _) ?_
    show Ends p.tables e below G (T17.setTop (mkF m 282 #[iv vc, iv va, iv vf, iv cd, iv atv, iv f8, rv b1, iv nv, iv ne, iv ((F i) &&& (255 : Int32)), iv ((F (i + 1)) &&& (255 : Int32)), un, un] [(.int (F (i + 2)))]))
    refine Ends.go (fun _ => XS.sipush X17.here hx rfl (hb hby at_282)) ?_
    show Ends p.tables e below G (T17.setTop (mkF m 285 #[iv vc, iv va, iv vf, iv cd, iv atv, iv f8, rv b1, iv nv, iv ne, iv ((F i) &&& (255 : Int32)), iv ((F (i + 1)) &&& (255 : Int32)), un, un] [(.int (255 : Int32)), (.int (F (i + 2)))]))
    refine Ends.go (fun _ => XS.iand X17.here hx rfl (hb hby at_285) rfl) ?_
    show Ends p.tables e below G (T17.setTop (mkF m 286 #[iv vc, iv va, iv vf, iv cd, iv atv, iv f8, rv b1, iv nv, iv ne, iv ((F i) &&& (255 : Int32)), iv ((F (i + 1)) &&& (255 : Int32)), un, un] [(.int ((F (i + 2)) &&& (255 : Int32)))]))
    refine Ends.go (fun _ => XS.istore X17.here hx rfl (hb hby at_286) rfl (l' := #[iv vc, iv va, iv vf, iv cd, iv atv, iv f8, rv b1, iv nv, iv ne, iv ((F i) &&& (255 : Int32)), iv ((F (i + 1)) &&& (255 : Int32)), iv ((F (i + 2)) &&& (255 : Int32)), un]) rfl) ?_
    show Ends p.tables e below G (T17.setTop (mkF m 288 #[iv vc, iv va, iv vf, iv cd, iv atv, iv f8, rv b1, iv nv, iv ne, iv ((F i) &&& (255 : Int32)), iv ((F (i + 1)) &&& (255 : Int32)), iv ((F (i + 2)) &&& (255 : Int32)), un] []))
    refine Ends.go (fun _ => XS.aload X17.here hx rfl (hb hby at_288) rfl rfl) ?_
    show Ends p.tables e below G (T17.setTop (mkF m 290 #[iv vc, iv va, iv vf, iv cd, iv atv, iv f8, rv b1, iv nv, iv ne, iv ((F i) &&& (255 : Int32)), iv ((F (i + 1)) &&& (255 : Int32)), iv ((F (i + 2)) &&& (255 : Int32)), un] [(.ref b1)]))
    refine Ends.go (fun _ => XS.iload X17.here hx rfl (hb hby at_290) rfl) ?_
    show Ends p.tables e below G (T17.setTop (mkF m 292 #[iv vc, iv va, iv vf, iv cd, iv atv, iv f8, rv b1, iv nv, iv ne, iv ((F i) &&& (255 : Int32)), iv ((F (i + 1)) &&& (255 : Int32)), iv ((F (i + 2)) &&& (255 : Int32)), un] [(.int atv), (.ref b1)]))
    refine Ends.go (fun _ => XS.iconst X17.here hx rfl (hb hby at_292)) ?_
    show Ends p.tables e below G (T17.setTop (mkF m 293 #[iv vc, iv va, iv vf, iv cd, iv atv, iv f8, rv b1, iv nv, iv ne, iv ((F i) &&& (255 : Int32)), iv ((F (i + 1)) &&& (255 : Int32)), iv ((F (i + 2)) &&& (255 : Int32)), un] [(.int (3 : Int32)), (.int atv), (.ref b1)]))
    refine Ends.go (fun _ => XS.iadd X17.here hx rfl (hb hby at_293) rfl) ?_
    show Ends p.tables e below G (T17.setTop (mkF m 294 #[iv vc, iv va, iv vf, iv cd, iv atv, iv f8, rv b1, iv nv, iv ne, iv ((F i) &&& (255 : Int32)), iv ((F (i + 1)) &&& (255 : Int32)), iv ((F (i + 2)) &&& (255 : Int32)), un] [(.int (atv + (3 : Int32))), (.ref b1)]))
    refine Ends.go (fun _ => AF.ldB V9 X17 hx hZ e17 (j := (atv + (3 : Int32))) (i := (i + 3)) (own_add hat (b := 3) rfl (by omega)) (by omega) (v := (.int (F (i + 3)))) rfl (g := (mkF m 294 #[iv vc, iv va, iv vf, iv cd, iv atv, iv f8, rv b1, iv nv, iv ne, iv ((F i) &&& (255 : Int32)), iv ((F (i + 1)) &&& (255 : Int32)), iv ((F (i + 2)) &&& (255 : Int32)), un] [(.int (atv + (3 : Int32))), (.ref b1)])) rfl rfl (hb hby at_294) _) ?_
    show Ends p.tables e below G (T17.setTop (mkF m 295 #[iv vc, iv va, iv vf, iv cd, iv atv, iv f8, rv b1, iv nv, iv ne, iv ((F i) &&& (255 : Int32)), iv ((F (i + 1)) &&& (255 : Int32)), iv ((F (i + 2)) &&& (255 : Int32)), un] [(.int (F (i + 3)))]))
    refine Ends.go (fun _ => XS.sipush X17.here hx rfl (hb hby at_295)) ?_
    show Ends p.tables e below G (T17.setTop (mkF m 298 #[iv vc, iv va, iv vf, iv cd, iv atv, iv f8, rv b1, iv nv, iv ne, iv ((F i) &&& (255 : Int32)), iv ((F (i + 1)) &&& (255 : Int32)), iv ((F (i + 2)) &&& (255 : Int32)), un] [(.int (255 : Int32)), (.int (F (i + 3)))]))
    refine Ends.go (fun _ => XS.iand X17.here hx rfl (hb hby at_298) rfl) ?_
    show Ends p.tables e below G (T17.setTop (mkF m 299 #[iv vc, iv va, iv vf, iv cd, iv atv, iv f8, rv b1, iv nv, iv ne, iv ((F i) &&& (255 : Int32)), iv ((F (i + 1)) &&& (255 : Int32)), iv ((F (i + 2)) &&& (255 : Int32)), un] [(.int ((F (i + 3)) &&& (255 : Int32)))]))
    refine Ends.go (fun _ => XS.istore X17.here hx rfl (hb hby at_299) rfl (l' := #[iv vc, iv va, iv vf, iv cd, iv atv, iv f8, rv b1, iv nv, iv ne, iv ((F i) &&& (255 : Int32)), iv ((F (i + 1)) &&& (255 : Int32)), iv ((F (i + 2)) &&& (255 : Int32)), iv ((F (i + 3)) &&& (255 : Int32))]) rfl) ?_
    show Ends p.tables e below G (T17.setTop (mkF m 301 #[iv vc, iv va, iv vf, iv cd, iv atv, iv f8, rv b1, iv nv, iv ne, iv ((F i) &&& (255 : Int32)), iv ((F (i + 1)) &&& (255 : Int32)), iv ((F (i + 2)) &&& (255 : Int32)), iv ((F (i + 3)) &&& (255 : Int32))] []))
    exact K9 _ _ X17 N17
  by_cases r1 : cn < 128
  · obtain ⟨_, _, ⟨T18, L18, k18, n18⟩, -, X18, ⟨Lc18, hQ18, l18, y18, z18⟩, st18⟩ := Jvm.LawKit.callS X9 hx (y := (⟨"com/example/belge/belge/XmlScanner", "utf8", "(I[BI)I"⟩ : MethodName)) hown (mvT hZ (hw _ (List.mem_of_getElem? (i := 3) rfl))) (mvT hZ (hw _ (List.mem_of_getElem? (i := 4) rfl))) (mvT hZ (hw _ (List.mem_of_getElem? (i := 5) rfl))) (mvT hZ (hw _ (List.mem_of_getElem? (i := 6) rfl))) (by decide) (backOf (W := 0) (rm1x1 l Z a0 hw [] cd b1 atv cn i (fun _ => f8) h9 n0 sz9 V0 g_b1 hcd hat hi (by omega)) hZ (hw _ (List.mem_of_getElem? (i := 6) rfl)) (hw _ (List.mem_of_getElem? (i := 5) rfl)) (by decide) (by decide)) (g := (mkF m 78 #[iv vc, iv va, iv vf, iv cd, iv atv, iv f8, rv b1, un, un, un, un, un, un] [(.int atv), (.ref b1), (.int cd)])) rfl (by rw [hml]; rfl) (argsL := [(.int cd), (.ref b1), (.int atv)]) (rest := []) (lenOf pd_0 rfl) rfl (by show 2 * 0 + _ ≤ _; exact Nat.le_of_eq rfl) (hb hby at_78) (fun _ _ => ⟨rfl, e9, (by decide : (0 + 1) + 0 ≤ _), (by decide : (0 + 8) + 0 ≤ _)⟩)
    dsimp only [Pt.U, Pt.locs, Pt.cells, Pt.slots] at X18 l18 y18 z18 st18 hQ18
    subst l18 y18 z18
    obtain ⟨rfl, N18q, Kq18, V18⟩ := hQ18
    have N18 := Fr.app N9 N18q
    have sz18 := Nat.le_trans sz9 Kq18.1
    refine Ends.go (fun _ => st18 _) ?_
    show Ends p.tables e below G (T18.setTop (mkF m 81 #[iv vc, iv va, iv vf, iv cd, iv atv, iv f8, rv b1, un, un, un, un, un, un] [(.int (1 : Int32))]))
    refine Ends.go (fun _ => XS.istore X18.here hx rfl (hb hby at_81) rfl (l' := #[iv vc, iv va, iv vf, iv cd, iv atv, iv f8, rv b1, iv (1 : Int32), un, un, un, un, un]) rfl) ?_
    show Ends p.tables e below G (T18.setTop (mkF m 83 #[iv vc, iv va, iv vf, iv cd, iv atv, iv f8, rv b1, iv (1 : Int32), un, un, un, un, un] []))
    refine Ends.go (fun _ => XS.iloadN X18.here hx rfl (hb hby at_83) rfl) ?_
    show Ends p.tables e below G (T18.setTop (mkF m 84 #[iv vc, iv va, iv vf, iv cd, iv atv, iv f8, rv b1, iv (1 : Int32), un, un, un, un, un] [(.int cd)]))
    refine Ends.go (fun _ => XS.sipush X18.here hx rfl (hb hby at_84)) ?_
    show Ends p.tables e below G (T18.setTop (mkF m 87 #[iv vc, iv va, iv vf, iv cd, iv atv, iv f8, rv b1, iv (1 : Int32), un, un, un, un, un] [(.int (128 : Int32)), (.int cd)]))
    refine Ends.go (fun _ => XS.icmpNo X18.here hx rfl (hb hby at_87) rfl (tlt ((own_lt hcd (b := 128) rfl).mpr (by omega) : cd < (128 : Int32))).2.1) ?_
    show Ends p.tables e below G (T18.setTop (mkF m 90 #[iv vc, iv va, iv vf, iv cd, iv atv, iv f8, rv b1, iv (1 : Int32), un, un, un, un, un] []))
    refine Ends.go (fun _ => XS.iconst X18.here hx rfl (hb hby at_90)) ?_
    show Ends p.tables e below G (T18.setTop (mkF m 91 #[iv vc, iv va, iv vf, iv cd, iv atv, iv f8, rv b1, iv (1 : Int32), un, un, un, un, un] [(.int (1 : Int32))]))
    refine Ends.go (fun _ => XS.goto X18.here hx rfl (pc0 := 91) (pc' := 116) rfl (hb hby at_91) (by decide) (by decide)) ?_
    show Ends p.tables e below G (T18.setTop (mkF m 116 #[iv vc, iv va, iv vf, iv cd, iv atv, iv f8, rv b1, iv (1 : Int32), un, un, un, un, un] [(.int (1 : Int32))]))
    refine Ends.go (fun _ => XS.istore X18.here hx rfl (hb hby at_116) rfl (l' := #[iv vc, iv va, iv vf, iv cd, iv atv, iv f8, rv b1, iv (1 : Int32), iv (1 : Int32), un, un, un, un]) rfl) ?_
    show Ends p.tables e below G (T18.setTop (mkF m 118 #[iv vc, iv va, iv vf, iv cd, iv atv, iv f8, rv b1, iv (1 : Int32), iv (1 : Int32), un, un, un, un] []))
    refine Ends.go (fun _ => XS.iload X18.here hx rfl (hb hby at_118) rfl) ?_
    show Ends p.tables e below G (T18.setTop (mkF m 120 #[iv vc, iv va, iv vf, iv cd, iv atv, iv f8, rv b1, iv (1 : Int32), iv (1 : Int32), un, un, un, un] [(.int (1 : Int32))]))
    refine Ends.go (fun _ => XS.iload X18.here hx rfl (hb hby at_120) rfl) ?_
    show Ends p.tables e below G (T18.setTop (mkF m 122 #[iv vc, iv va, iv vf, iv cd, iv atv, iv f8, rv b1, iv (1 : Int32), iv (1 : Int32), un, un, un, un] [(.int (1 : Int32)), (.int (1 : Int32))]))
    refine Ends.go (fun _ => XS.icmpYes X18.here hx rfl (pc0 := 122) (pc' := 127) rfl (hb hby at_122) rfl (teq (rfl : (1 : Int32) = (1 : Int32))).1 (by decide) (by decide)) ?_
    show Ends p.tables e below G (T18.setTop (mkF m 127 #[iv vc, iv va, iv vf, iv cd, iv atv, iv f8, rv b1, iv (1 : Int32), iv (1 : Int32), un, un, un, un] []))
    refine tail _ _ _ _ 1 (own_u1 cd i (fun _ => f8)) X18 N18 sz18 V18 rfl (by decide) (own_u1_o cd f8 i) (fun T8 X8L X8 N8 => ?_)
    show Ends p.tables e below G (T8.setTop (mkF m 301 #[iv vc, iv va, iv vf, iv cd, iv atv, iv f8, rv b1, iv (1 : Int32), iv (1 : Int32), iv (own_u1 cd i (fun _ => f8) i &&& (255 : Int32)), iv (own_u1 cd i (fun _ => f8) (i + 1) &&& (255 : Int32)), iv (own_u1 cd i (fun _ => f8) (i + 2) &&& (255 : Int32)), iv (own_u1 cd i (fun _ => f8) (i + 3) &&& (255 : Int32))] []))
    rw [show (own_u1 cd i (fun _ => f8) i &&& (255 : Int32)) = (cd &&& (255 : Int32)) from by rw [own_u1_0]; exact own_low _]
    show Ends p.tables e below G (T8.setTop (mkF m 301 #[iv vc, iv va, iv vf, iv cd, iv atv, iv f8, rv b1, iv (1 : Int32), iv (1 : Int32), iv (cd &&& (255 : Int32)), iv (own_u1 cd i (fun _ => f8) (i + 1) &&& (255 : Int32)), iv (own_u1 cd i (fun _ => f8) (i + 2) &&& (255 : Int32)), iv (own_u1 cd i (fun _ => f8) (i + 3) &&& (255 : Int32))] []))
    refine Ends.go (fun _ => XS.iload X8.here hx rfl (hb hby at_301) rfl) ?_
    show Ends p.tables e below G (T8.setTop (mkF m 303 #[iv vc, iv va, iv vf, iv cd, iv atv, iv f8, rv b1, iv (1 : Int32), iv (1 : Int32), iv (cd &&& (255 : Int32)), iv (own_u1 cd i (fun _ => f8) (i + 1) &&& (255 : Int32)), iv (own_u1 cd i (fun _ => f8) (i + 2) &&& (255 : Int32)), iv (own_u1 cd i (fun _ => f8) (i + 3) &&& (255 : Int32))] [(.int (1 : Int32))]))
    refine Ends.go (fun _ => XS.iconst X8.here hx rfl (hb hby at_303)) ?_
    show Ends p.tables e below G (T8.setTop (mkF m 304 #[iv vc, iv va, iv vf, iv cd, iv atv, iv f8, rv b1, iv (1 : Int32), iv (1 : Int32), iv (cd &&& (255 : Int32)), iv (own_u1 cd i (fun _ => f8) (i + 1) &&& (255 : Int32)), iv (own_u1 cd i (fun _ => f8) (i + 2) &&& (255 : Int32)), iv (own_u1 cd i (fun _ => f8) (i + 3) &&& (255 : Int32))] [(.int (1 : Int32)), (.int (1 : Int32))]))
    refine Ends.go (fun _ => XS.icmpNo X8.here hx rfl (hb hby at_304) rfl (teq (by decide : (1 : Int32) = (1 : Int32))).2) ?_
    show Ends p.tables e below G (T8.setTop (mkF m 307 #[iv vc, iv va, iv vf, iv cd, iv atv, iv f8, rv b1, iv (1 : Int32), iv (1 : Int32), iv (cd &&& (255 : Int32)), iv (own_u1 cd i (fun _ => f8) (i + 1) &&& (255 : Int32)), iv (own_u1 cd i (fun _ => f8) (i + 2) &&& (255 : Int32)), iv (own_u1 cd i (fun _ => f8) (i + 3) &&& (255 : Int32))] []))
    refine Ends.go (fun _ => XS.iload X8.here hx rfl (hb hby at_307) rfl) ?_
    show Ends p.tables e below G (T8.setTop (mkF m 309 #[iv vc, iv va, iv vf, iv cd, iv atv, iv f8, rv b1, iv (1 : Int32), iv (1 : Int32), iv (cd &&& (255 : Int32)), iv (own_u1 cd i (fun _ => f8) (i + 1) &&& (255 : Int32)), iv (own_u1 cd i (fun _ => f8) (i + 2) &&& (255 : Int32)), iv (own_u1 cd i (fun _ => f8) (i + 3) &&& (255 : Int32))] [(.int (cd &&& (255 : Int32)))]))
    refine Ends.go (fun _ => XS.sipush X8.here hx rfl (hb hby at_309)) ?_
    show Ends p.tables e below G (T8.setTop (mkF m 312 #[iv vc, iv va, iv vf, iv cd, iv atv, iv f8, rv b1, iv (1 : Int32), iv (1 : Int32), iv (cd &&& (255 : Int32)), iv (own_u1 cd i (fun _ => f8) (i + 1) &&& (255 : Int32)), iv (own_u1 cd i (fun _ => f8) (i + 2) &&& (255 : Int32)), iv (own_u1 cd i (fun _ => f8) (i + 3) &&& (255 : Int32))] [(.int (128 : Int32)), (.int (cd &&& (255 : Int32)))]))
    refine Ends.go (fun _ => XS.icmpNo X8.here hx rfl (hb hby at_312) rfl (tlt (by rw [own_c1 hcd (by omega)]; exact (own_lt hcd (b := 128) rfl).mpr (by omega) : (cd &&& (255 : Int32)) < (128 : Int32))).2.1) ?_
    show Ends p.tables e below G (T8.setTop (mkF m 315 #[iv vc, iv va, iv vf, iv cd, iv atv, iv f8, rv b1, iv (1 : Int32), iv (1 : Int32), iv (cd &&& (255 : Int32)), iv (own_u1 cd i (fun _ => f8) (i + 1) &&& (255 : Int32)), iv (own_u1 cd i (fun _ => f8) (i + 2) &&& (255 : Int32)), iv (own_u1 cd i (fun _ => f8) (i + 3) &&& (255 : Int32))] []))
    refine Ends.go (fun _ => XS.iload X8.here hx rfl (hb hby at_315) rfl) ?_
    show Ends p.tables e below G (T8.setTop (mkF m 317 #[iv vc, iv va, iv vf, iv cd, iv atv, iv f8, rv b1, iv (1 : Int32), iv (1 : Int32), iv (cd &&& (255 : Int32)), iv (own_u1 cd i (fun _ => f8) (i + 1) &&& (255 : Int32)), iv (own_u1 cd i (fun _ => f8) (i + 2) &&& (255 : Int32)), iv (own_u1 cd i (fun _ => f8) (i + 3) &&& (255 : Int32))] [(.int (cd &&& (255 : Int32)))]))
    refine Ends.go (fun _ => XS.iloadN X8.here hx rfl (hb hby at_317) rfl) ?_
    show Ends p.tables e below G (T8.setTop (mkF m 318 #[iv vc, iv va, iv vf, iv cd, iv atv, iv f8, rv b1, iv (1 : Int32), iv (1 : Int32), iv (cd &&& (255 : Int32)), iv (own_u1 cd i (fun _ => f8) (i + 1) &&& (255 : Int32)), iv (own_u1 cd i (fun _ => f8) (i + 2) &&& (255 : Int32)), iv (own_u1 cd i (fun _ => f8) (i + 3) &&& (255 : Int32))] [(.int cd), (.int (cd &&& (255 : Int32)))]))
    refine Ends.go (fun _ => XS.icmpNo X8.here hx rfl (hb hby at_318) rfl (teq (own_c1 hcd (by omega) : (cd &&& (255 : Int32)) = cd)).2) ?_
    show Ends p.tables e below G (T8.setTop (mkF m 321 #[iv vc, iv va, iv vf, iv cd, iv atv, iv f8, rv b1, iv (1 : Int32), iv (1 : Int32), iv (cd &&& (255 : Int32)), iv (own_u1 cd i (fun _ => f8) (i + 1) &&& (255 : Int32)), iv (own_u1 cd i (fun _ => f8) (i + 2) &&& (255 : Int32)), iv (own_u1 cd i (fun _ => f8) (i + 3) &&& (255 : Int32))] []))
    refine Ends.go (fun _ => XS.iconst X8.here hx rfl (hb hby at_321)) ?_
    show Ends p.tables e below G (T8.setTop (mkF m 322 #[iv vc, iv va, iv vf, iv cd, iv atv, iv f8, rv b1, iv (1 : Int32), iv (1 : Int32), iv (cd &&& (255 : Int32)), iv (own_u1 cd i (fun _ => f8) (i + 1) &&& (255 : Int32)), iv (own_u1 cd i (fun _ => f8) (i + 2) &&& (255 : Int32)), iv (own_u1 cd i (fun _ => f8) (i + 3) &&& (255 : Int32))] [(.int (1 : Int32))]))
    refine Ends.go (fun _ => XS.goto X8.here hx rfl (pc0 := 322) (pc' := 326) rfl (hb hby at_322) (by decide) (by decide)) ?_
    show Ends p.tables e below G (T8.setTop (mkF m 326 #[iv vc, iv va, iv vf, iv cd, iv atv, iv f8, rv b1, iv (1 : Int32), iv (1 : Int32), iv (cd &&& (255 : Int32)), iv (own_u1 cd i (fun _ => f8) (i + 1) &&& (255 : Int32)), iv (own_u1 cd i (fun _ => f8) (i + 2) &&& (255 : Int32)), iv (own_u1 cd i (fun _ => f8) (i + 3) &&& (255 : Int32))] [(.int (1 : Int32))]))
    refine own_finS (t := .boolean) X8 hx Bd.returns (by simp) Bd.notSynchronized (hb hby at_326) (Q := (Q0 Z vc va vf h0 n0)) hG (by decide) (by decide) ?_
    show (Q0 Z vc va vf h0 n0) _ T8.heap _
    exact ⟨rfl, N8⟩
  · by_cases r2 : cn < 2048
    · obtain ⟨_, _, ⟨T19, L19, k19, n19⟩, -, X19, ⟨Lc19, hQ19, l19, y19, z19⟩, st19⟩ := Jvm.LawKit.callS X9 hx (y := (⟨"com/example/belge/belge/XmlScanner", "utf8", "(I[BI)I"⟩ : MethodName)) hown (mvT hZ (hw _ (List.mem_of_getElem? (i := 3) rfl))) (mvT hZ (hw _ (List.mem_of_getElem? (i := 4) rfl))) (mvT hZ (hw _ (List.mem_of_getElem? (i := 5) rfl))) (mvT hZ (hw _ (List.mem_of_getElem? (i := 6) rfl))) (by decide) (backOf (W := 0) (rm1x2 l Z a0 hw [] cd b1 atv cn i (fun _ => f8) h9 n0 sz9 V0 g_b1 hcd hat hi (by omega)) hZ (hw _ (List.mem_of_getElem? (i := 6) rfl)) (hw _ (List.mem_of_getElem? (i := 5) rfl)) (by decide) (by decide)) (g := (mkF m 78 #[iv vc, iv va, iv vf, iv cd, iv atv, iv f8, rv b1, un, un, un, un, un, un] [(.int atv), (.ref b1), (.int cd)])) rfl (by rw [hml]; rfl) (argsL := [(.int cd), (.ref b1), (.int atv)]) (rest := []) (lenOf pd_0 rfl) rfl (by show 2 * 0 + _ ≤ _; exact Nat.le_of_eq rfl) (hb hby at_78) (fun _ _ => ⟨rfl, e9, (by decide : (0 + 1) + 0 ≤ _), (by decide : (0 + 8) + 0 ≤ _)⟩)
      dsimp only [Pt.U, Pt.locs, Pt.cells, Pt.slots] at X19 l19 y19 z19 st19 hQ19
      subst l19 y19 z19
      obtain ⟨rfl, N19q, Kq19, V19⟩ := hQ19
      have N19 := Fr.app N9 N19q
      have sz19 := Nat.le_trans sz9 Kq19.1
      refine Ends.go (fun _ => st19 _) ?_
      show Ends p.tables e below G (T19.setTop (mkF m 81 #[iv vc, iv va, iv vf, iv cd, iv atv, iv f8, rv b1, un, un, un, un, un, un] [(.int (2 : Int32))]))
      refine Ends.go (fun _ => XS.istore X19.here hx rfl (hb hby at_81) rfl (l' := #[iv vc, iv va, iv vf, iv cd, iv atv, iv f8, rv b1, iv (2 : Int32), un, un, un, un, un]) rfl) ?_
      show Ends p.tables e below G (T19.setTop (mkF m 83 #[iv vc, iv va, iv vf, iv cd, iv atv, iv f8, rv b1, iv (2 : Int32), un, un, un, un, un] []))
      refine Ends.go (fun _ => XS.iloadN X19.here hx rfl (hb hby at_83) rfl) ?_
      show Ends p.tables e below G (T19.setTop (mkF m 84 #[iv vc, iv va, iv vf, iv cd, iv atv, iv f8, rv b1, iv (2 : Int32), un, un, un, un, un] [(.int cd)]))
      refine Ends.go (fun _ => XS.sipush X19.here hx rfl (hb hby at_84)) ?_
      show Ends p.tables e below G (T19.setTop (mkF m 87 #[iv vc, iv va, iv vf, iv cd, iv atv, iv f8, rv b1, iv (2 : Int32), un, un, un, un, un] [(.int (128 : Int32)), (.int cd)]))
      refine Ends.go (fun _ => XS.icmpYes X19.here hx rfl (pc0 := 87) (pc' := 94) rfl (hb hby at_87) rfl (flt (fun z => absurd ((own_lt hcd (b := 128) rfl).mp z) (by omega) : ¬ (cd < (128 : Int32)))).2.1 (by decide) (by decide)) ?_
      show Ends p.tables e below G (T19.setTop (mkF m 94 #[iv vc, iv va, iv vf, iv cd, iv atv, iv f8, rv b1, iv (2 : Int32), un, un, un, un, un] []))
      refine Ends.go (fun _ => XS.iloadN X19.here hx rfl (hb hby at_94) rfl) ?_
      show Ends p.tables e below G (T19.setTop (mkF m 95 #[iv vc, iv va, iv vf, iv cd, iv atv, iv f8, rv b1, iv (2 : Int32), un, un, un, un, un] [(.int cd)]))
      refine Ends.go (fun _ => XS.sipush X19.here hx rfl (hb hby at_95)) ?_
      show Ends p.tables e below G (T19.setTop (mkF m 98 #[iv vc, iv va, iv vf, iv cd, iv atv, iv f8, rv b1, iv (2 : Int32), un, un, un, un, un] [(.int (2048 : Int32)), (.int cd)]))
      refine Ends.go (fun _ => XS.icmpNo X19.here hx rfl (hb hby at_98) rfl (tlt ((own_lt hcd (b := 2048) rfl).mpr (by omega) : cd < (2048 : Int32))).2.1) ?_
      show Ends p.tables e below G (T19.setTop (mkF m 101 #[iv vc, iv va, iv vf, iv cd, iv atv, iv f8, rv b1, iv (2 : Int32), un, un, un, un, un] []))
      refine Ends.go (fun _ => XS.iconst X19.here hx rfl (hb hby at_101)) ?_
      show Ends p.tables e below G (T19.setTop (mkF m 102 #[iv vc, iv va, iv vf, iv cd, iv atv, iv f8, rv b1, iv (2 : Int32), un, un, un, un, un] [(.int (2 : Int32))]))
      refine Ends.go (fun _ => XS.goto X19.here hx rfl (pc0 := 102) (pc' := 116) rfl (hb hby at_102) (by decide) (by decide)) ?_
      show Ends p.tables e below G (T19.setTop (mkF m 116 #[iv vc, iv va, iv vf, iv cd, iv atv, iv f8, rv b1, iv (2 : Int32), un, un, un, un, un] [(.int (2 : Int32))]))
      refine Ends.go (fun _ => XS.istore X19.here hx rfl (hb hby at_116) rfl (l' := #[iv vc, iv va, iv vf, iv cd, iv atv, iv f8, rv b1, iv (2 : Int32), iv (2 : Int32), un, un, un, un]) rfl) ?_
      show Ends p.tables e below G (T19.setTop (mkF m 118 #[iv vc, iv va, iv vf, iv cd, iv atv, iv f8, rv b1, iv (2 : Int32), iv (2 : Int32), un, un, un, un] []))
      refine Ends.go (fun _ => XS.iload X19.here hx rfl (hb hby at_118) rfl) ?_
      show Ends p.tables e below G (T19.setTop (mkF m 120 #[iv vc, iv va, iv vf, iv cd, iv atv, iv f8, rv b1, iv (2 : Int32), iv (2 : Int32), un, un, un, un] [(.int (2 : Int32))]))
      refine Ends.go (fun _ => XS.iload X19.here hx rfl (hb hby at_120) rfl) ?_
      show Ends p.tables e below G (T19.setTop (mkF m 122 #[iv vc, iv va, iv vf, iv cd, iv atv, iv f8, rv b1, iv (2 : Int32), iv (2 : Int32), un, un, un, un] [(.int (2 : Int32)), (.int (2 : Int32))]))
      refine Ends.go (fun _ => XS.icmpYes X19.here hx rfl (pc0 := 122) (pc' := 127) rfl (hb hby at_122) rfl (teq (rfl : (2 : Int32) = (2 : Int32))).1 (by decide) (by decide)) ?_
      show Ends p.tables e below G (T19.setTop (mkF m 127 #[iv vc, iv va, iv vf, iv cd, iv atv, iv f8, rv b1, iv (2 : Int32), iv (2 : Int32), un, un, un, un] []))
      refine tail _ _ _ _ 2 (own_u2 cd i (fun _ => f8)) X19 N19 sz19 V19 rfl (by decide) (own_u2_o cd f8 i) (fun T8 X8L X8 N8 => ?_)
      show Ends p.tables e below G (T8.setTop (mkF m 301 #[iv vc, iv va, iv vf, iv cd, iv atv, iv f8, rv b1, iv (2 : Int32), iv (2 : Int32), iv (own_u2 cd i (fun _ => f8) i &&& (255 : Int32)), iv (own_u2 cd i (fun _ => f8) (i + 1) &&& (255 : Int32)), iv (own_u2 cd i (fun _ => f8) (i + 2) &&& (255 : Int32)), iv (own_u2 cd i (fun _ => f8) (i + 3) &&& (255 : Int32))] []))
      rw [show (own_u2 cd i (fun _ => f8) i &&& (255 : Int32)) = (((192 : Int32) ||| (cd >>> ((6 : Int32) &&& 31))) &&& (255 : Int32)) from by rw [own_u2_0]; exact own_low _]
      show Ends p.tables e below G (T8.setTop (mkF m 301 #[iv vc, iv va, iv vf, iv cd, iv atv, iv f8, rv b1, iv (2 : Int32), iv (2 : Int32), iv (((192 : Int32) ||| (cd >>> ((6 : Int32) &&& 31))) &&& (255 : Int32)), iv (own_u2 cd i (fun _ => f8) (i + 1) &&& (255 : Int32)), iv (own_u2 cd i (fun _ => f8) (i + 2) &&& (255 : Int32)), iv (own_u2 cd i (fun _ => f8) (i + 3) &&& (255 : Int32))] []))
      rw [show (own_u2 cd i (fun _ => f8) (i + 1) &&& (255 : Int32)) = (((128 : Int32) ||| (cd &&& (63 : Int32))) &&& (255 : Int32)) from by rw [own_u2_1]; exact own_low _]
      show Ends p.tables e below G (T8.setTop (mkF m 301 #[iv vc, iv va, iv vf, iv cd, iv atv, iv f8, rv b1, iv (2 : Int32), iv (2 : Int32), iv (((192 : Int32) ||| (cd >>> ((6 : Int32) &&& 31))) &&& (255 : Int32)), iv (((128 : Int32) ||| (cd &&& (63 : Int32))) &&& (255 : Int32)), iv (own_u2 cd i (fun _ => f8) (i + 2) &&& (255 : Int32)), iv (own_u2 cd i (fun _ => f8) (i + 3) &&& (255 : Int32))] []))
      refine Ends.go (fun _ => XS.iload X8.here hx rfl (hb hby at_301) rfl) ?_
      show Ends p.tables e below G (T8.setTop (mkF m 303 #[iv vc, iv va, iv vf, iv cd, iv atv, iv f8, rv b1, iv (2 : Int32), iv (2 : Int32), iv (((192 : Int32) ||| (cd >>> ((6 : Int32) &&& 31))) &&& (255 : Int32)), iv (((128 : Int32) ||| (cd &&& (63 : Int32))) &&& (255 : Int32)), iv (own_u2 cd i (fun _ => f8) (i + 2) &&& (255 : Int32)), iv (own_u2 cd i (fun _ => f8) (i + 3) &&& (255 : Int32))] [(.int (2 : Int32))]))
      refine Ends.go (fun _ => XS.iconst X8.here hx rfl (hb hby at_303)) ?_
      show Ends p.tables e below G (T8.setTop (mkF m 304 #[iv vc, iv va, iv vf, iv cd, iv atv, iv f8, rv b1, iv (2 : Int32), iv (2 : Int32), iv (((192 : Int32) ||| (cd >>> ((6 : Int32) &&& 31))) &&& (255 : Int32)), iv (((128 : Int32) ||| (cd &&& (63 : Int32))) &&& (255 : Int32)), iv (own_u2 cd i (fun _ => f8) (i + 2) &&& (255 : Int32)), iv (own_u2 cd i (fun _ => f8) (i + 3) &&& (255 : Int32))] [(.int (1 : Int32)), (.int (2 : Int32))]))
      refine Ends.go (fun _ => XS.icmpYes X8.here hx rfl (pc0 := 304) (pc' := 327) rfl (hb hby at_304) rfl (feq (by decide : ¬ ((2 : Int32) = (1 : Int32)))).2 (by decide) (by decide)) ?_
      show Ends p.tables e below G (T8.setTop (mkF m 327 #[iv vc, iv va, iv vf, iv cd, iv atv, iv f8, rv b1, iv (2 : Int32), iv (2 : Int32), iv (((192 : Int32) ||| (cd >>> ((6 : Int32) &&& 31))) &&& (255 : Int32)), iv (((128 : Int32) ||| (cd &&& (63 : Int32))) &&& (255 : Int32)), iv (own_u2 cd i (fun _ => f8) (i + 2) &&& (255 : Int32)), iv (own_u2 cd i (fun _ => f8) (i + 3) &&& (255 : Int32))] []))
      refine Ends.go (fun _ => XS.iload X8.here hx rfl (hb hby at_327) rfl) ?_
      show Ends p.tables e below G (T8.setTop (mkF m 329 #[iv vc, iv va, iv vf, iv cd, iv atv, iv f8, rv b1, iv (2 : Int32), iv (2 : Int32), iv (((192 : Int32) ||| (cd >>> ((6 : Int32) &&& 31))) &&& (255 : Int32)), iv (((128 : Int32) ||| (cd &&& (63 : Int32))) &&& (255 : Int32)), iv (own_u2 cd i (fun _ => f8) (i + 2) &&& (255 : Int32)), iv (own_u2 cd i (fun _ => f8) (i + 3) &&& (255 : Int32))] [(.int (2 : Int32))]))
      refine Ends.go (fun _ => XS.iconst X8.here hx rfl (hb hby at_329)) ?_
      show Ends p.tables e below G (T8.setTop (mkF m 330 #[iv vc, iv va, iv vf, iv cd, iv atv, iv f8, rv b1, iv (2 : Int32), iv (2 : Int32), iv (((192 : Int32) ||| (cd >>> ((6 : Int32) &&& 31))) &&& (255 : Int32)), iv (((128 : Int32) ||| (cd &&& (63 : Int32))) &&& (255 : Int32)), iv (own_u2 cd i (fun _ => f8) (i + 2) &&& (255 : Int32)), iv (own_u2 cd i (fun _ => f8) (i + 3) &&& (255 : Int32))] [(.int (2 : Int32)), (.int (2 : Int32))]))
      refine Ends.go (fun _ => XS.icmpNo X8.here hx rfl (hb hby at_330) rfl (teq (by decide : (2 : Int32) = (2 : Int32))).2) ?_
      show Ends p.tables e below G (T8.setTop (mkF m 333 #[iv vc, iv va, iv vf, iv cd, iv atv, iv f8, rv b1, iv (2 : Int32), iv (2 : Int32), iv (((192 : Int32) ||| (cd >>> ((6 : Int32) &&& 31))) &&& (255 : Int32)), iv (((128 : Int32) ||| (cd &&& (63 : Int32))) &&& (255 : Int32)), iv (own_u2 cd i (fun _ => f8) (i + 2) &&& (255 : Int32)), iv (own_u2 cd i (fun _ => f8) (i + 3) &&& (255 : Int32))] []))
      refine Ends.go (fun _ => XS.iload X8.here hx rfl (hb hby at_333) rfl) ?_
      show Ends p.tables e below G (T8.setTop (mkF m 335 #[iv vc, iv va, iv vf, iv cd, iv atv, iv f8, rv b1, iv (2 : Int32), iv (2 : Int32), iv (((192 : Int32) ||| (cd >>> ((6 : Int32) &&& 31))) &&& (255 : Int32)), iv (((128 : Int32) ||| (cd &&& (63 : Int32))) &&& (255 : Int32)), iv (own_u2 cd i (fun _ => f8) (i + 2) &&& (255 : Int32)), iv (own_u2 cd i (fun _ => f8) (i + 3) &&& (255 : Int32))] [(.int (((192 : Int32) ||| (cd >>> ((6 : Int32) &&& 31))) &&& (255 : Int32)))]))
      refine Ends.go (fun _ => XS.sipush X8.here hx rfl (hb hby at_335)) ?_
      show Ends p.tables e below G (T8.setTop (mkF m 338 #[iv vc, iv va, iv vf, iv cd, iv atv, iv f8, rv b1, iv (2 : Int32), iv (2 : Int32), iv (((192 : Int32) ||| (cd >>> ((6 : Int32) &&& 31))) &&& (255 : Int32)), iv (((128 : Int32) ||| (cd &&& (63 : Int32))) &&& (255 : Int32)), iv (own_u2 cd i (fun _ => f8) (i + 2) &&& (255 : Int32)), iv (own_u2 cd i (fun _ => f8) (i + 3) &&& (255 : Int32))] [(.int (224 : Int32)), (.int (((192 : Int32) ||| (cd >>> ((6 : Int32) &&& 31))) &&& (255 : Int32)))]))
      refine Ends.go (fun _ => XS.iand X8.here hx rfl (hb hby at_338) rfl) ?_
      show Ends p.tables e below G (T8.setTop (mkF m 339 #[iv vc, iv va, iv vf, iv cd, iv atv, iv f8, rv b1, iv (2 : Int32), iv (2 : Int32), iv (((192 : Int32) ||| (cd >>> ((6 : Int32) &&& 31))) &&& (255 : Int32)), iv (((128 : Int32) ||| (cd &&& (63 : Int32))) &&& (255 : Int32)), iv (own_u2 cd i (fun _ => f8) (i + 2) &&& (255 : Int32)), iv (own_u2 cd i (fun _ => f8) (i + 3) &&& (255 : Int32))] [(.int ((((192 : Int32) ||| (cd >>> ((6 : Int32) &&& 31))) &&& (255 : Int32)) &&& (224 : Int32)))]))
      refine Ends.go (fun _ => XS.sipush X8.here hx rfl (hb hby at_339)) ?_
      show Ends p.tables e below G (T8.setTop (mkF m 342 #[iv vc, iv va, iv vf, iv cd, iv atv, iv f8, rv b1, iv (2 : Int32), iv (2 : Int32), iv (((192 : Int32) ||| (cd >>> ((6 : Int32) &&& 31))) &&& (255 : Int32)), iv (((128 : Int32) ||| (cd &&& (63 : Int32))) &&& (255 : Int32)), iv (own_u2 cd i (fun _ => f8) (i + 2) &&& (255 : Int32)), iv (own_u2 cd i (fun _ => f8) (i + 3) &&& (255 : Int32))] [(.int (192 : Int32)), (.int ((((192 : Int32) ||| (cd >>> ((6 : Int32) &&& 31))) &&& (255 : Int32)) &&& (224 : Int32)))]))
      refine Ends.go (fun _ => XS.icmpNo X8.here hx rfl (hb hby at_342) rfl (teq (own_c2_0 hcd (by omega) : ((((192 : Int32) ||| (cd >>> ((6 : Int32) &&& 31))) &&& (255 : Int32)) &&& (224 : Int32)) = (192 : Int32))).2) ?_
      show Ends p.tables e below G (T8.setTop (mkF m 345 #[iv vc, iv va, iv vf, iv cd, iv atv, iv f8, rv b1, iv (2 : Int32), iv (2 : Int32), iv (((192 : Int32) ||| (cd >>> ((6 : Int32) &&& 31))) &&& (255 : Int32)), iv (((128 : Int32) ||| (cd &&& (63 : Int32))) &&& (255 : Int32)), iv (own_u2 cd i (fun _ => f8) (i + 2) &&& (255 : Int32)), iv (own_u2 cd i (fun _ => f8) (i + 3) &&& (255 : Int32))] []))
      refine Ends.go (fun _ => XS.iload X8.here hx rfl (hb hby at_345) rfl) ?_
      show Ends p.tables e below G (T8.setTop (mkF m 347 #[iv vc, iv va, iv vf, iv cd, iv atv, iv f8, rv b1, iv (2 : Int32), iv (2 : Int32), iv (((192 : Int32) ||| (cd >>> ((6 : Int32) &&& 31))) &&& (255 : Int32)), iv (((128 : Int32) ||| (cd &&& (63 : Int32))) &&& (255 : Int32)), iv (own_u2 cd i (fun _ => f8) (i + 2) &&& (255 : Int32)), iv (own_u2 cd i (fun _ => f8) (i + 3) &&& (255 : Int32))] [(.int (((128 : Int32) ||| (cd &&& (63 : Int32))) &&& (255 : Int32)))]))
      refine Ends.go (fun _ => XS.sipush X8.here hx rfl (hb hby at_347)) ?_
      show Ends p.tables e below G (T8.setTop (mkF m 350 #[iv vc, iv va, iv vf, iv cd, iv atv, iv f8, rv b1, iv (2 : Int32), iv (2 : Int32), iv (((192 : Int32) ||| (cd >>> ((6 : Int32) &&& 31))) &&& (255 : Int32)), iv (((128 : Int32) ||| (cd &&& (63 : Int32))) &&& (255 : Int32)), iv (own_u2 cd i (fun _ => f8) (i + 2) &&& (255 : Int32)), iv (own_u2 cd i (fun _ => f8) (i + 3) &&& (255 : Int32))] [(.int (192 : Int32)), (.int (((128 : Int32) ||| (cd &&& (63 : Int32))) &&& (255 : Int32)))]))
      refine Ends.go (fun _ => XS.iand X8.here hx rfl (hb hby at_350) rfl) ?_
      show Ends p.tables e below G (T8.setTop (mkF m 351 #[iv vc, iv va, iv vf, iv cd, iv atv, iv f8, rv b1, iv (2 : Int32), iv (2 : Int32), iv (((192 : Int32) ||| (cd >>> ((6 : Int32) &&& 31))) &&& (255 : Int32)), iv (((128 : Int32) ||| (cd &&& (63 : Int32))) &&& (255 : Int32)), iv (own_u2 cd i (fun _ => f8) (i + 2) &&& (255 : Int32)), iv (own_u2 cd i (fun _ => f8) (i + 3) &&& (255 : Int32))] [(.int ((((128 : Int32) ||| (cd &&& (63 : Int32))) &&& (255 : Int32)) &&& (192 : Int32)))]))
      refine Ends.go (fun _ => XS.sipush X8.here hx rfl (hb hby at_351)) ?_
      show Ends p.tables e below G (T8.setTop (mkF m 354 #[iv vc, iv va, iv vf, iv cd, iv atv, iv f8, rv b1, iv (2 : Int32), iv (2 : Int32), iv (((192 : Int32) ||| (cd >>> ((6 : Int32) &&& 31))) &&& (255 : Int32)), iv (((128 : Int32) ||| (cd &&& (63 : Int32))) &&& (255 : Int32)), iv (own_u2 cd i (fun _ => f8) (i + 2) &&& (255 : Int32)), iv (own_u2 cd i (fun _ => f8) (i + 3) &&& (255 : Int32))] [(.int (128 : Int32)), (.int ((((128 : Int32) ||| (cd &&& (63 : Int32))) &&& (255 : Int32)) &&& (192 : Int32)))]))
      refine Ends.go (fun _ => XS.icmpNo X8.here hx rfl (hb hby at_354) rfl (teq (own_c2_1 hcd (by omega) : ((((128 : Int32) ||| (cd &&& (63 : Int32))) &&& (255 : Int32)) &&& (192 : Int32)) = (128 : Int32))).2) ?_
      show Ends p.tables e below G (T8.setTop (mkF m 357 #[iv vc, iv va, iv vf, iv cd, iv atv, iv f8, rv b1, iv (2 : Int32), iv (2 : Int32), iv (((192 : Int32) ||| (cd >>> ((6 : Int32) &&& 31))) &&& (255 : Int32)), iv (((128 : Int32) ||| (cd &&& (63 : Int32))) &&& (255 : Int32)), iv (own_u2 cd i (fun _ => f8) (i + 2) &&& (255 : Int32)), iv (own_u2 cd i (fun _ => f8) (i + 3) &&& (255 : Int32))] []))
      refine Ends.go (fun _ => XS.iload X8.here hx rfl (hb hby at_357) rfl) ?_
      show Ends p.tables e below G (T8.setTop (mkF m 359 #[iv vc, iv va, iv vf, iv cd, iv atv, iv f8, rv b1, iv (2 : Int32), iv (2 : Int32), iv (((192 : Int32) ||| (cd >>> ((6 : Int32) &&& 31))) &&& (255 : Int32)), iv (((128 : Int32) ||| (cd &&& (63 : Int32))) &&& (255 : Int32)), iv (own_u2 cd i (fun _ => f8) (i + 2) &&& (255 : Int32)), iv (own_u2 cd i (fun _ => f8) (i + 3) &&& (255 : Int32))] [(.int (((192 : Int32) ||| (cd >>> ((6 : Int32) &&& 31))) &&& (255 : Int32)))]))
      refine Ends.go (fun _ => XS.bipush X8.here hx rfl (hb hby at_359)) ?_
      show Ends p.tables e below G (T8.setTop (mkF m 361 #[iv vc, iv va, iv vf, iv cd, iv atv, iv f8, rv b1, iv (2 : Int32), iv (2 : Int32), iv (((192 : Int32) ||| (cd >>> ((6 : Int32) &&& 31))) &&& (255 : Int32)), iv (((128 : Int32) ||| (cd &&& (63 : Int32))) &&& (255 : Int32)), iv (own_u2 cd i (fun _ => f8) (i + 2) &&& (255 : Int32)), iv (own_u2 cd i (fun _ => f8) (i + 3) &&& (255 : Int32))] [(.int (31 : Int32)), (.int (((192 : Int32) ||| (cd >>> ((6 : Int32) &&& 31))) &&& (255 : Int32)))]))
      refine Ends.go (fun _ => XS.iand X8.here hx rfl (hb hby at_361) rfl) ?_
      show Ends p.tables e below G (T8.setTop (mkF m 362 #[iv vc, iv va, iv vf, iv cd, iv atv, iv f8, rv b1, iv (2 : Int32), iv (2 : Int32), iv (((192 : Int32) ||| (cd >>> ((6 : Int32) &&& 31))) &&& (255 : Int32)), iv (((128 : Int32) ||| (cd &&& (63 : Int32))) &&& (255 : Int32)), iv (own_u2 cd i (fun _ => f8) (i + 2) &&& (255 : Int32)), iv (own_u2 cd i (fun _ => f8) (i + 3) &&& (255 : Int32))] [(.int ((((192 : Int32) ||| (cd >>> ((6 : Int32) &&& 31))) &&& (255 : Int32)) &&& (31 : Int32)))]))
      refine Ends.go (fun _ => XS.bipush X8.here hx rfl (hb hby at_362)) ?_
      show Ends p.tables e below G (T8.setTop (mkF m 364 #[iv vc, iv va, iv vf, iv cd, iv atv, iv f8, rv b1, iv (2 : Int32), iv (2 : Int32), iv (((192 : Int32) ||| (cd >>> ((6 : Int32) &&& 31))) &&& (255 : Int32)), iv (((128 : Int32) ||| (cd &&& (63 : Int32))) &&& (255 : Int32)), iv (own_u2 cd i (fun _ => f8) (i + 2) &&& (255 : Int32)), iv (own_u2 cd i (fun _ => f8) (i + 3) &&& (255 : Int32))] [(.int (6 : Int32)), (.int ((((192 : Int32) ||| (cd >>> ((6 : Int32) &&& 31))) &&& (255 : Int32)) &&& (31 : Int32)))]))
      refine Ends.go (fun _ => XS.ishl X8.here hx rfl (hb hby at_364) rfl) ?_
      show Ends p.tables e below G (T8.setTop (mkF m 365 #[iv vc, iv va, iv vf, iv cd, iv atv, iv f8, rv b1, iv (2 : Int32), iv (2 : Int32), iv (((192 : Int32) ||| (cd >>> ((6 : Int32) &&& 31))) &&& (255 : Int32)), iv (((128 : Int32) ||| (cd &&& (63 : Int32))) &&& (255 : Int32)), iv (own_u2 cd i (fun _ => f8) (i + 2) &&& (255 : Int32)), iv (own_u2 cd i (fun _ => f8) (i + 3) &&& (255 : Int32))] [(.int (((((192 : Int32) ||| (cd >>> ((6 : Int32) &&& 31))) &&& (255 : Int32)) &&& (31 : Int32)) <<< ((6 : Int32) &&& 31)))]))
      refine Ends.go (fun _ => XS.iload X8.here hx rfl (hb hby at_365) rfl) ?_
      show Ends p.tables e below G (T8.setTop (mkF m 367 #[iv vc, iv va, iv vf, iv cd, iv atv, iv f8, rv b1, iv (2 : Int32), iv (2 : Int32), iv (((192 : Int32) ||| (cd >>> ((6 : Int32) &&& 31))) &&& (255 : Int32)), iv (((128 : Int32) ||| (cd &&& (63 : Int32))) &&& (255 : Int32)), iv (own_u2 cd i (fun _ => f8) (i + 2) &&& (255 : Int32)), iv (own_u2 cd i (fun _ => f8) (i + 3) &&& (255 : Int32))] [(.int (((128 : Int32) ||| (cd &&& (63 : Int32))) &&& (255 : Int32))), (.int (((((192 : Int32) ||| (cd >>> ((6 : Int32) &&& 31))) &&& (255 : Int32)) &&& (31 : Int32)) <<< ((6 : Int32) &&& 31)))]))
      refine Ends.go (fun _ => XS.bipush X8.here hx rfl (hb hby at_367)) ?_
      show Ends p.tables e below G (T8.setTop (mkF m 369 #[iv vc, iv va, iv vf, iv cd, iv atv, iv f8, rv b1, iv (2 : Int32), iv (2 : Int32), iv (((192 : Int32) ||| (cd >>> ((6 : Int32) &&& 31))) &&& (255 : Int32)), iv (((128 : Int32) ||| (cd &&& (63 : Int32))) &&& (255 : Int32)), iv (own_u2 cd i (fun _ => f8) (i + 2) &&& (255 : Int32)), iv (own_u2 cd i (fun _ => f8) (i + 3) &&& (255 : Int32))] [(.int (63 : Int32)), (.int (((128 : Int32) ||| (cd &&& (63 : Int32))) &&& (255 : Int32))), (.int (((((192 : Int32) ||| (cd >>> ((6 : Int32) &&& 31))) &&& (255 : Int32)) &&& (31 : Int32)) <<< ((6 : Int32) &&& 31)))]))
      refine Ends.go (fun _ => XS.iand X8.here hx rfl (hb hby at_369) rfl) ?_
      show Ends p.tables e below G (T8.setTop (mkF m 370 #[iv vc, iv va, iv vf, iv cd, iv atv, iv f8, rv b1, iv (2 : Int32), iv (2 : Int32), iv (((192 : Int32) ||| (cd >>> ((6 : Int32) &&& 31))) &&& (255 : Int32)), iv (((128 : Int32) ||| (cd &&& (63 : Int32))) &&& (255 : Int32)), iv (own_u2 cd i (fun _ => f8) (i + 2) &&& (255 : Int32)), iv (own_u2 cd i (fun _ => f8) (i + 3) &&& (255 : Int32))] [(.int ((((128 : Int32) ||| (cd &&& (63 : Int32))) &&& (255 : Int32)) &&& (63 : Int32))), (.int (((((192 : Int32) ||| (cd >>> ((6 : Int32) &&& 31))) &&& (255 : Int32)) &&& (31 : Int32)) <<< ((6 : Int32) &&& 31)))]))
      refine Ends.go (fun _ => XS.ior X8.here hx rfl (hb hby at_370) rfl) ?_
      show Ends p.tables e below G (T8.setTop (mkF m 371 #[iv vc, iv va, iv vf, iv cd, iv atv, iv f8, rv b1, iv (2 : Int32), iv (2 : Int32), iv (((192 : Int32) ||| (cd >>> ((6 : Int32) &&& 31))) &&& (255 : Int32)), iv (((128 : Int32) ||| (cd &&& (63 : Int32))) &&& (255 : Int32)), iv (own_u2 cd i (fun _ => f8) (i + 2) &&& (255 : Int32)), iv (own_u2 cd i (fun _ => f8) (i + 3) &&& (255 : Int32))] [(.int ((((((192 : Int32) ||| (cd >>> ((6 : Int32) &&& 31))) &&& (255 : Int32)) &&& (31 : Int32)) <<< ((6 : Int32) &&& 31)) ||| ((((128 : Int32) ||| (cd &&& (63 : Int32))) &&& (255 : Int32)) &&& (63 : Int32))))]))
      refine Ends.go (fun _ => XS.iloadN X8.here hx rfl (hb hby at_371) rfl) ?_
      show Ends p.tables e below G (T8.setTop (mkF m 372 #[iv vc, iv va, iv vf, iv cd, iv atv, iv f8, rv b1, iv (2 : Int32), iv (2 : Int32), iv (((192 : Int32) ||| (cd >>> ((6 : Int32) &&& 31))) &&& (255 : Int32)), iv (((128 : Int32) ||| (cd &&& (63 : Int32))) &&& (255 : Int32)), iv (own_u2 cd i (fun _ => f8) (i + 2) &&& (255 : Int32)), iv (own_u2 cd i (fun _ => f8) (i + 3) &&& (255 : Int32))] [(.int cd), (.int ((((((192 : Int32) ||| (cd >>> ((6 : Int32) &&& 31))) &&& (255 : Int32)) &&& (31 : Int32)) <<< ((6 : Int32) &&& 31)) ||| ((((128 : Int32) ||| (cd &&& (63 : Int32))) &&& (255 : Int32)) &&& (63 : Int32))))]))
      refine Ends.go (fun _ => XS.icmpNo X8.here hx rfl (hb hby at_372) rfl (teq (own_c2_s hcd (by omega) : ((((((192 : Int32) ||| (cd >>> ((6 : Int32) &&& 31))) &&& (255 : Int32)) &&& (31 : Int32)) <<< ((6 : Int32) &&& 31)) ||| ((((128 : Int32) ||| (cd &&& (63 : Int32))) &&& (255 : Int32)) &&& (63 : Int32))) = cd)).2) ?_
      show Ends p.tables e below G (T8.setTop (mkF m 375 #[iv vc, iv va, iv vf, iv cd, iv atv, iv f8, rv b1, iv (2 : Int32), iv (2 : Int32), iv (((192 : Int32) ||| (cd >>> ((6 : Int32) &&& 31))) &&& (255 : Int32)), iv (((128 : Int32) ||| (cd &&& (63 : Int32))) &&& (255 : Int32)), iv (own_u2 cd i (fun _ => f8) (i + 2) &&& (255 : Int32)), iv (own_u2 cd i (fun _ => f8) (i + 3) &&& (255 : Int32))] []))
      refine Ends.go (fun _ => XS.iconst X8.here hx rfl (hb hby at_375)) ?_
      show Ends p.tables e below G (T8.setTop (mkF m 376 #[iv vc, iv va, iv vf, iv cd, iv atv, iv f8, rv b1, iv (2 : Int32), iv (2 : Int32), iv (((192 : Int32) ||| (cd >>> ((6 : Int32) &&& 31))) &&& (255 : Int32)), iv (((128 : Int32) ||| (cd &&& (63 : Int32))) &&& (255 : Int32)), iv (own_u2 cd i (fun _ => f8) (i + 2) &&& (255 : Int32)), iv (own_u2 cd i (fun _ => f8) (i + 3) &&& (255 : Int32))] [(.int (1 : Int32))]))
      refine Ends.go (fun _ => XS.goto X8.here hx rfl (pc0 := 376) (pc' := 380) rfl (hb hby at_376) (by decide) (by decide)) ?_
      show Ends p.tables e below G (T8.setTop (mkF m 380 #[iv vc, iv va, iv vf, iv cd, iv atv, iv f8, rv b1, iv (2 : Int32), iv (2 : Int32), iv (((192 : Int32) ||| (cd >>> ((6 : Int32) &&& 31))) &&& (255 : Int32)), iv (((128 : Int32) ||| (cd &&& (63 : Int32))) &&& (255 : Int32)), iv (own_u2 cd i (fun _ => f8) (i + 2) &&& (255 : Int32)), iv (own_u2 cd i (fun _ => f8) (i + 3) &&& (255 : Int32))] [(.int (1 : Int32))]))
      refine own_finS (t := .boolean) X8 hx Bd.returns (by simp) Bd.notSynchronized (hb hby at_380) (Q := (Q0 Z vc va vf h0 n0)) hG (by decide) (by decide) ?_
      show (Q0 Z vc va vf h0 n0) _ T8.heap _
      exact ⟨rfl, N8⟩
    · by_cases r3 : cn < 65536
      · obtain ⟨_, _, ⟨T20, L20, k20, n20⟩, -, X20, ⟨Lc20, hQ20, l20, y20, z20⟩, st20⟩ := Jvm.LawKit.callS X9 hx (y := (⟨"com/example/belge/belge/XmlScanner", "utf8", "(I[BI)I"⟩ : MethodName)) hown (mvT hZ (hw _ (List.mem_of_getElem? (i := 3) rfl))) (mvT hZ (hw _ (List.mem_of_getElem? (i := 4) rfl))) (mvT hZ (hw _ (List.mem_of_getElem? (i := 5) rfl))) (mvT hZ (hw _ (List.mem_of_getElem? (i := 6) rfl))) (by decide) (backOf (W := 0) (rm1x3 l Z a0 hw [] cd b1 atv cn i (fun _ => f8) h9 n0 sz9 V0 g_b1 hcd hat hi (by omega)) hZ (hw _ (List.mem_of_getElem? (i := 6) rfl)) (hw _ (List.mem_of_getElem? (i := 5) rfl)) (by decide) (by decide)) (g := (mkF m 78 #[iv vc, iv va, iv vf, iv cd, iv atv, iv f8, rv b1, un, un, un, un, un, un] [(.int atv), (.ref b1), (.int cd)])) rfl (by rw [hml]; rfl) (argsL := [(.int cd), (.ref b1), (.int atv)]) (rest := []) (lenOf pd_0 rfl) rfl (by show 2 * 0 + _ ≤ _; exact Nat.le_of_eq rfl) (hb hby at_78) (fun _ _ => ⟨rfl, e9, (by decide : (0 + 1) + 0 ≤ _), (by decide : (0 + 8) + 0 ≤ _)⟩)
        dsimp only [Pt.U, Pt.locs, Pt.cells, Pt.slots] at X20 l20 y20 z20 st20 hQ20
        subst l20 y20 z20
        obtain ⟨rfl, N20q, Kq20, V20⟩ := hQ20
        have N20 := Fr.app N9 N20q
        have sz20 := Nat.le_trans sz9 Kq20.1
        refine Ends.go (fun _ => st20 _) ?_
        show Ends p.tables e below G (T20.setTop (mkF m 81 #[iv vc, iv va, iv vf, iv cd, iv atv, iv f8, rv b1, un, un, un, un, un, un] [(.int (3 : Int32))]))
        refine Ends.go (fun _ => XS.istore X20.here hx rfl (hb hby at_81) rfl (l' := #[iv vc, iv va, iv vf, iv cd, iv atv, iv f8, rv b1, iv (3 : Int32), un, un, un, un, un]) rfl) ?_
        show Ends p.tables e below G (T20.setTop (mkF m 83 #[iv vc, iv va, iv vf, iv cd, iv atv, iv f8, rv b1, iv (3 : Int32), un, un, un, un, un] []))
        refine Ends.go (fun _ => XS.iloadN X20.here hx rfl (hb hby at_83) rfl) ?_
        show Ends p.tables e below G (T20.setTop (mkF m 84 #[iv vc, iv va, iv vf, iv cd, iv atv, iv f8, rv b1, iv (3 : Int32), un, un, un, un, un] [(.int cd)]))
        refine Ends.go (fun _ => XS.sipush X20.here hx rfl (hb hby at_84)) ?_
        show Ends p.tables e below G (T20.setTop (mkF m 87 #[iv vc, iv va, iv vf, iv cd, iv atv, iv f8, rv b1, iv (3 : Int32), un, un, un, un, un] [(.int (128 : Int32)), (.int cd)]))
        refine Ends.go (fun _ => XS.icmpYes X20.here hx rfl (pc0 := 87) (pc' := 94) rfl (hb hby at_87) rfl (flt (fun z => absurd ((own_lt hcd (b := 128) rfl).mp z) (by omega) : ¬ (cd < (128 : Int32)))).2.1 (by decide) (by decide)) ?_
        show Ends p.tables e below G (T20.setTop (mkF m 94 #[iv vc, iv va, iv vf, iv cd, iv atv, iv f8, rv b1, iv (3 : Int32), un, un, un, un, un] []))
        refine Ends.go (fun _ => XS.iloadN X20.here hx rfl (hb hby at_94) rfl) ?_
        show Ends p.tables e below G (T20.setTop (mkF m 95 #[iv vc, iv va, iv vf, iv cd, iv atv, iv f8, rv b1, iv (3 : Int32), un, un, un, un, un] [(.int cd)]))
        refine Ends.go (fun _ => XS.sipush X20.here hx rfl (hb hby at_95)) ?_
        show Ends p.tables e below G (T20.setTop (mkF m 98 #[iv vc, iv va, iv vf, iv cd, iv atv, iv f8, rv b1, iv (3 : Int32), un, un, un, un, un] [(.int (2048 : Int32)), (.int cd)]))
        refine Ends.go (fun _ => XS.icmpYes X20.here hx rfl (pc0 := 98) (pc' := 105) rfl (hb hby at_98) rfl (flt (fun z => absurd ((own_lt hcd (b := 2048) rfl).mp z) (by omega) : ¬ (cd < (2048 : Int32)))).2.1 (by decide) (by decide)) ?_
        show Ends p.tables e below G (T20.setTop (mkF m 105 #[iv vc, iv va, iv vf, iv cd, iv atv, iv f8, rv b1, iv (3 : Int32), un, un, un, un, un] []))
        refine Ends.go (fun _ => XS.iloadN X20.here hx rfl (hb hby at_105) rfl) ?_
        show Ends p.tables e below G (T20.setTop (mkF m 106 #[iv vc, iv va, iv vf, iv cd, iv atv, iv f8, rv b1, iv (3 : Int32), un, un, un, un, un] [(.int cd)]))
        refine Ends.go (fun _ => X20.ldcInt hx hown (mvT hZ (hw _ (List.mem_of_getElem? (i := 12) rfl))) (g := (mkF m 106 #[iv vc, iv va, iv vf, iv cd, iv atv, iv f8, rv b1, iv (3 : Int32), un, un, un, un, un] [(.int cd)])) rfl (hb hby at_106) _) ?_
        show Ends p.tables e below G (T20.setTop (mkF m 108 #[iv vc, iv va, iv vf, iv cd, iv atv, iv f8, rv b1, iv (3 : Int32), un, un, un, un, un] [(.int (65536 : Int32)), (.int cd)]))
        refine Ends.go (fun _ => XS.icmpNo X20.here hx rfl (hb hby at_108) rfl (tlt ((own_lt hcd (b := 65536) rfl).mpr (by omega) : cd < (65536 : Int32))).2.1) ?_
        show Ends p.tables e below G (T20.setTop (mkF m 111 #[iv vc, iv va, iv vf, iv cd, iv atv, iv f8, rv b1, iv (3 : Int32), un, un, un, un, un] []))
        refine Ends.go (fun _ => XS.iconst X20.here hx rfl (hb hby at_111)) ?_
        show Ends p.tables e below G (T20.setTop (mkF m 112 #[iv vc, iv va, iv vf, iv cd, iv atv, iv f8, rv b1, iv (3 : Int32), un, un, un, un, un] [(.int (3 : Int32))]))
        refine Ends.go (fun _ => XS.goto X20.here hx rfl (pc0 := 112) (pc' := 116) rfl (hb hby at_112) (by decide) (by decide)) ?_
        show Ends p.tables e below G (T20.setTop (mkF m 116 #[iv vc, iv va, iv vf, iv cd, iv atv, iv f8, rv b1, iv (3 : Int32), un, un, un, un, un] [(.int (3 : Int32))]))
        refine Ends.go (fun _ => XS.istore X20.here hx rfl (hb hby at_116) rfl (l' := #[iv vc, iv va, iv vf, iv cd, iv atv, iv f8, rv b1, iv (3 : Int32), iv (3 : Int32), un, un, un, un]) rfl) ?_
        show Ends p.tables e below G (T20.setTop (mkF m 118 #[iv vc, iv va, iv vf, iv cd, iv atv, iv f8, rv b1, iv (3 : Int32), iv (3 : Int32), un, un, un, un] []))
        refine Ends.go (fun _ => XS.iload X20.here hx rfl (hb hby at_118) rfl) ?_
        show Ends p.tables e below G (T20.setTop (mkF m 120 #[iv vc, iv va, iv vf, iv cd, iv atv, iv f8, rv b1, iv (3 : Int32), iv (3 : Int32), un, un, un, un] [(.int (3 : Int32))]))
        refine Ends.go (fun _ => XS.iload X20.here hx rfl (hb hby at_120) rfl) ?_
        show Ends p.tables e below G (T20.setTop (mkF m 122 #[iv vc, iv va, iv vf, iv cd, iv atv, iv f8, rv b1, iv (3 : Int32), iv (3 : Int32), un, un, un, un] [(.int (3 : Int32)), (.int (3 : Int32))]))
        refine Ends.go (fun _ => XS.icmpYes X20.here hx rfl (pc0 := 122) (pc' := 127) rfl (hb hby at_122) rfl (teq (rfl : (3 : Int32) = (3 : Int32))).1 (by decide) (by decide)) ?_
        show Ends p.tables e below G (T20.setTop (mkF m 127 #[iv vc, iv va, iv vf, iv cd, iv atv, iv f8, rv b1, iv (3 : Int32), iv (3 : Int32), un, un, un, un] []))
        refine tail _ _ _ _ 3 (own_u3 cd i (fun _ => f8)) X20 N20 sz20 V20 rfl (by decide) (own_u3_o cd f8 i) (fun T8 X8L X8 N8 => ?_)
        show Ends p.tables e below G (T8.setTop (mkF m 301 #[iv vc, iv va, iv vf, iv cd, iv atv, iv f8, rv b1, iv (3 : Int32), iv (3 : Int32), iv (own_u3 cd i (fun _ => f8) i &&& (255 : Int32)), iv (own_u3 cd i (fun _ => f8) (i + 1) &&& (255 : Int32)), iv (own_u3 cd i (fun _ => f8) (i + 2) &&& (255 : Int32)), iv (own_u3 cd i (fun _ => f8) (i + 3) &&& (255 : Int32))] []))
        rw [show (own_u3 cd i (fun _ => f8) i &&& (255 : Int32)) = (((224 : Int32) ||| (cd >>> ((12 : Int32) &&& 31))) &&& (255 : Int32)) from by rw [own_u3_0]; exact own_low _]
        show Ends p.tables e below G (T8.setTop (mkF m 301 #[iv vc, iv va, iv vf, iv cd, iv atv, iv f8, rv b1, iv (3 : Int32), iv (3 : Int32), iv (((224 : Int32) ||| (cd >>> ((12 : Int32) &&& 31))) &&& (255 : Int32)), iv (own_u3 cd i (fun _ => f8) (i + 1) &&& (255 : Int32)), iv (own_u3 cd i (fun _ => f8) (i + 2) &&& (255 : Int32)), iv (own_u3 cd i (fun _ => f8) (i + 3) &&& (255 : Int32))] []))
        rw [show (own_u3 cd i (fun _ => f8) (i + 1) &&& (255 : Int32)) = (((128 : Int32) ||| ((cd >>> ((6 : Int32) &&& 31)) &&& (63 : Int32))) &&& (255 : Int32)) from by rw [own_u3_1]; exact own_low _]
        show Ends p.tables e below G (T8.setTop (mkF m 301 #[iv vc, iv va, iv vf, iv cd, iv atv, iv f8, rv b1, iv (3 : Int32), iv (3 : Int32), iv (((224 : Int32) ||| (cd >>> ((12 : Int32) &&& 31))) &&& (255 : Int32)), iv (((128 : Int32) ||| ((cd >>> ((6 : Int32) &&& 31)) &&& (63 : Int32))) &&& (255 : Int32)), iv (own_u3 cd i (fun _ => f8) (i + 2) &&& (255 : Int32)), iv (own_u3 cd i (fun _ => f8) (i + 3) &&& (255 : Int32))] []))
        rw [show (own_u3 cd i (fun _ => f8) (i + 2) &&& (255 : Int32)) = (((128 : Int32) ||| (cd &&& (63 : Int32))) &&& (255 : Int32)) from by rw [own_u3_2]; exact own_low _]
        show Ends p.tables e below G (T8.setTop (mkF m 301 #[iv vc, iv va, iv vf, iv cd, iv atv, iv f8, rv b1, iv (3 : Int32), iv (3 : Int32), iv (((224 : Int32) ||| (cd >>> ((12 : Int32) &&& 31))) &&& (255 : Int32)), iv (((128 : Int32) ||| ((cd >>> ((6 : Int32) &&& 31)) &&& (63 : Int32))) &&& (255 : Int32)), iv (((128 : Int32) ||| (cd &&& (63 : Int32))) &&& (255 : Int32)), iv (own_u3 cd i (fun _ => f8) (i + 3) &&& (255 : Int32))] []))
        refine Ends.go (fun _ => XS.iload X8.here hx rfl (hb hby at_301) rfl) ?_
        show Ends p.tables e below G (T8.setTop (mkF m 303 #[iv vc, iv va, iv vf, iv cd, iv atv, iv f8, rv b1, iv (3 : Int32), iv (3 : Int32), iv (((224 : Int32) ||| (cd >>> ((12 : Int32) &&& 31))) &&& (255 : Int32)), iv (((128 : Int32) ||| ((cd >>> ((6 : Int32) &&& 31)) &&& (63 : Int32))) &&& (255 : Int32)), iv (((128 : Int32) ||| (cd &&& (63 : Int32))) &&& (255 : Int32)), iv (own_u3 cd i (fun _ => f8) (i + 3) &&& (255 : Int32))] [(.int (3 : Int32))]))
        refine Ends.go (fun _ => XS.iconst X8.here hx rfl (hb hby at_303)) ?_
        show Ends p.tables e below G (T8.setTop (mkF m 304 #[iv vc, iv va, iv vf, iv cd, iv atv, iv f8, rv b1, iv (3 : Int32), iv (3 : Int32), iv (((224 : Int32) ||| (cd >>> ((12 : Int32) &&& 31))) &&& (255 : Int32)), iv (((128 : Int32) ||| ((cd >>> ((6 : Int32) &&& 31)) &&& (63 : Int32))) &&& (255 : Int32)), iv (((128 : Int32) ||| (cd &&& (63 : Int32))) &&& (255 : Int32)), iv (own_u3 cd i (fun _ => f8) (i + 3) &&& (255 : Int32))] [(.int (1 : Int32)), (.int (3 : Int32))]))
        refine Ends.go (fun _ => XS.icmpYes X8.here hx rfl (pc0 := 304) (pc' := 327) rfl (hb hby at_304) rfl (feq (by decide : ¬ ((3 : Int32) = (1 : Int32)))).2 (by decide) (by decide)) ?_
        show Ends p.tables e below G (T8.setTop (mkF m 327 #[iv vc, iv va, iv vf, iv cd, iv atv, iv f8, rv b1, iv (3 : Int32), iv (3 : Int32), iv (((224 : Int32) ||| (cd >>> ((12 : Int32) &&& 31))) &&& (255 : Int32)), iv (((128 : Int32) ||| ((cd >>> ((6 : Int32) &&& 31)) &&& (63 : Int32))) &&& (255 : Int32)), iv (((128 : Int32) ||| (cd &&& (63 : Int32))) &&& (255 : Int32)), iv (own_u3 cd i (fun _ => f8) (i + 3) &&& (255 : Int32))] []))
        refine Ends.go (fun _ => XS.iload X8.here hx rfl (hb hby at_327) rfl) ?_
        show Ends p.tables e below G (T8.setTop (mkF m 329 #[iv vc, iv va, iv vf, iv cd, iv atv, iv f8, rv b1, iv (3 : Int32), iv (3 : Int32), iv (((224 : Int32) ||| (cd >>> ((12 : Int32) &&& 31))) &&& (255 : Int32)), iv (((128 : Int32) ||| ((cd >>> ((6 : Int32) &&& 31)) &&& (63 : Int32))) &&& (255 : Int32)), iv (((128 : Int32) ||| (cd &&& (63 : Int32))) &&& (255 : Int32)), iv (own_u3 cd i (fun _ => f8) (i + 3) &&& (255 : Int32))] [(.int (3 : Int32))]))
        refine Ends.go (fun _ => XS.iconst X8.here hx rfl (hb hby at_329)) ?_
        show Ends p.tables e below G (T8.setTop (mkF m 330 #[iv vc, iv va, iv vf, iv cd, iv atv, iv f8, rv b1, iv (3 : Int32), iv (3 : Int32), iv (((224 : Int32) ||| (cd >>> ((12 : Int32) &&& 31))) &&& (255 : Int32)), iv (((128 : Int32) ||| ((cd >>> ((6 : Int32) &&& 31)) &&& (63 : Int32))) &&& (255 : Int32)), iv (((128 : Int32) ||| (cd &&& (63 : Int32))) &&& (255 : Int32)), iv (own_u3 cd i (fun _ => f8) (i + 3) &&& (255 : Int32))] [(.int (2 : Int32)), (.int (3 : Int32))]))
        refine Ends.go (fun _ => XS.icmpYes X8.here hx rfl (pc0 := 330) (pc' := 381) rfl (hb hby at_330) rfl (feq (by decide : ¬ ((3 : Int32) = (2 : Int32)))).2 (by decide) (by decide)) ?_
        show Ends p.tables e below G (T8.setTop (mkF m 381 #[iv vc, iv va, iv vf, iv cd, iv atv, iv f8, rv b1, iv (3 : Int32), iv (3 : Int32), iv (((224 : Int32) ||| (cd >>> ((12 : Int32) &&& 31))) &&& (255 : Int32)), iv (((128 : Int32) ||| ((cd >>> ((6 : Int32) &&& 31)) &&& (63 : Int32))) &&& (255 : Int32)), iv (((128 : Int32) ||| (cd &&& (63 : Int32))) &&& (255 : Int32)), iv (own_u3 cd i (fun _ => f8) (i + 3) &&& (255 : Int32))] []))
        refine Ends.go (fun _ => XS.iload X8.here hx rfl (hb hby at_381) rfl) ?_
        show Ends p.tables e below G (T8.setTop (mkF m 383 #[iv vc, iv va, iv vf, iv cd, iv atv, iv f8, rv b1, iv (3 : Int32), iv (3 : Int32), iv (((224 : Int32) ||| (cd >>> ((12 : Int32) &&& 31))) &&& (255 : Int32)), iv (((128 : Int32) ||| ((cd >>> ((6 : Int32) &&& 31)) &&& (63 : Int32))) &&& (255 : Int32)), iv (((128 : Int32) ||| (cd &&& (63 : Int32))) &&& (255 : Int32)), iv (own_u3 cd i (fun _ => f8) (i + 3) &&& (255 : Int32))] [(.int (3 : Int32))]))
        refine Ends.go (fun _ => XS.iconst X8.here hx rfl (hb hby at_383)) ?_
        show Ends p.tables e below G (T8.setTop (mkF m 384 #[iv vc, iv va, iv vf, iv cd, iv atv, iv f8, rv b1, iv (3 : Int32), iv (3 : Int32), iv (((224 : Int32) ||| (cd >>> ((12 : Int32) &&& 31))) &&& (255 : Int32)), iv (((128 : Int32) ||| ((cd >>> ((6 : Int32) &&& 31)) &&& (63 : Int32))) &&& (255 : Int32)), iv (((128 : Int32) ||| (cd &&& (63 : Int32))) &&& (255 : Int32)), iv (own_u3 cd i (fun _ => f8) (i + 3) &&& (255 : Int32))] [(.int (3 : Int32)), (.int (3 : Int32))]))
        refine Ends.go (fun _ => XS.icmpNo X8.here hx rfl (hb hby at_384) rfl (teq (by decide : (3 : Int32) = (3 : Int32))).2) ?_
        show Ends p.tables e below G (T8.setTop (mkF m 387 #[iv vc, iv va, iv vf, iv cd, iv atv, iv f8, rv b1, iv (3 : Int32), iv (3 : Int32), iv (((224 : Int32) ||| (cd >>> ((12 : Int32) &&& 31))) &&& (255 : Int32)), iv (((128 : Int32) ||| ((cd >>> ((6 : Int32) &&& 31)) &&& (63 : Int32))) &&& (255 : Int32)), iv (((128 : Int32) ||| (cd &&& (63 : Int32))) &&& (255 : Int32)), iv (own_u3 cd i (fun _ => f8) (i + 3) &&& (255 : Int32))] []))
        refine Ends.go (fun _ => XS.iload X8.here hx rfl (hb hby at_387) rfl) ?_
        show Ends p.tables e below G (T8.setTop (mkF m 389 #[iv vc, iv va, iv vf, iv cd, iv atv, iv f8, rv b1, iv (3 : Int32), iv (3 : Int32), iv (((224 : Int32) ||| (cd >>> ((12 : Int32) &&& 31))) &&& (255 : Int32)), iv (((128 : Int32) ||| ((cd >>> ((6 : Int32) &&& 31)) &&& (63 : Int32))) &&& (255 : Int32)), iv (((128 : Int32) ||| (cd &&& (63 : Int32))) &&& (255 : Int32)), iv (own_u3 cd i (fun _ => f8) (i + 3) &&& (255 : Int32))] [(.int (((224 : Int32) ||| (cd >>> ((12 : Int32) &&& 31))) &&& (255 : Int32)))]))
        refine Ends.go (fun _ => XS.sipush X8.here hx rfl (hb hby at_389)) ?_
        show Ends p.tables e below G (T8.setTop (mkF m 392 #[iv vc, iv va, iv vf, iv cd, iv atv, iv f8, rv b1, iv (3 : Int32), iv (3 : Int32), iv (((224 : Int32) ||| (cd >>> ((12 : Int32) &&& 31))) &&& (255 : Int32)), iv (((128 : Int32) ||| ((cd >>> ((6 : Int32) &&& 31)) &&& (63 : Int32))) &&& (255 : Int32)), iv (((128 : Int32) ||| (cd &&& (63 : Int32))) &&& (255 : Int32)), iv (own_u3 cd i (fun _ => f8) (i + 3) &&& (255 : Int32))] [(.int (240 : Int32)), (.int (((224 : Int32) ||| (cd >>> ((12 : Int32) &&& 31))) &&& (255 : Int32)))]))
        refine Ends.go (fun _ => XS.iand X8.here hx rfl (hb hby at_392) rfl) ?_
        show Ends p.tables e below G (T8.setTop (mkF m 393 #[iv vc, iv va, iv vf, iv cd, iv atv, iv f8, rv b1, iv (3 : Int32), iv (3 : Int32), iv (((224 : Int32) ||| (cd >>> ((12 : Int32) &&& 31))) &&& (255 : Int32)), iv (((128 : Int32) ||| ((cd >>> ((6 : Int32) &&& 31)) &&& (63 : Int32))) &&& (255 : Int32)), iv (((128 : Int32) ||| (cd &&& (63 : Int32))) &&& (255 : Int32)), iv (own_u3 cd i (fun _ => f8) (i + 3) &&& (255 : Int32))] [(.int ((((224 : Int32) ||| (cd >>> ((12 : Int32) &&& 31))) &&& (255 : Int32)) &&& (240 : Int32)))]))
        refine Ends.go (fun _ => XS.sipush X8.here hx rfl (hb hby at_393)) ?_
        show Ends p.tables e below G (T8.setTop (mkF m 396 #[iv vc, iv va, iv vf, iv cd, iv atv, iv f8, rv b1, iv (3 : Int32), iv (3 : Int32), iv (((224 : Int32) ||| (cd >>> ((12 : Int32) &&& 31))) &&& (255 : Int32)), iv (((128 : Int32) ||| ((cd >>> ((6 : Int32) &&& 31)) &&& (63 : Int32))) &&& (255 : Int32)), iv (((128 : Int32) ||| (cd &&& (63 : Int32))) &&& (255 : Int32)), iv (own_u3 cd i (fun _ => f8) (i + 3) &&& (255 : Int32))] [(.int (224 : Int32)), (.int ((((224 : Int32) ||| (cd >>> ((12 : Int32) &&& 31))) &&& (255 : Int32)) &&& (240 : Int32)))]))
        refine Ends.go (fun _ => XS.icmpNo X8.here hx rfl (hb hby at_396) rfl (teq (own_c3_0 hcd (by omega) : ((((224 : Int32) ||| (cd >>> ((12 : Int32) &&& 31))) &&& (255 : Int32)) &&& (240 : Int32)) = (224 : Int32))).2) ?_
        show Ends p.tables e below G (T8.setTop (mkF m 399 #[iv vc, iv va, iv vf, iv cd, iv atv, iv f8, rv b1, iv (3 : Int32), iv (3 : Int32), iv (((224 : Int32) ||| (cd >>> ((12 : Int32) &&& 31))) &&& (255 : Int32)), iv (((128 : Int32) ||| ((cd >>> ((6 : Int32) &&& 31)) &&& (63 : Int32))) &&& (255 : Int32)), iv (((128 : Int32) ||| (cd &&& (63 : Int32))) &&& (255 : Int32)), iv (own_u3 cd i (fun _ => f8) (i + 3) &&& (255 : Int32))] []))
        refine Ends.go (fun _ => XS.iload X8.here hx rfl (hb hby at_399) rfl) ?_
        show Ends p.tables e below G (T8.setTop (mkF m 401 #[iv vc, iv va, iv vf, iv cd, iv atv, iv f8, rv b1, iv (3 : Int32), iv (3 : Int32), iv (((224 : Int32) ||| (cd >>> ((12 : Int32) &&& 31))) &&& (255 : Int32)), iv (((128 : Int32) ||| ((cd >>> ((6 : Int32) &&& 31)) &&& (63 : Int32))) &&& (255 : Int32)), iv (((128 : Int32) ||| (cd &&& (63 : Int32))) &&& (255 : Int32)), iv (own_u3 cd i (fun _ => f8) (i + 3) &&& (255 : Int32))] [(.int (((128 : Int32) ||| ((cd >>> ((6 : Int32) &&& 31)) &&& (63 : Int32))) &&& (255 : Int32)))]))
        refine Ends.go (fun _ => XS.sipush X8.here hx rfl (hb hby at_401)) ?_
        show Ends p.tables e below G (T8.setTop (mkF m 404 #[iv vc, iv va, iv vf, iv cd, iv atv, iv f8, rv b1, iv (3 : Int32), iv (3 : Int32), iv (((224 : Int32) ||| (cd >>> ((12 : Int32) &&& 31))) &&& (255 : Int32)), iv (((128 : Int32) ||| ((cd >>> ((6 : Int32) &&& 31)) &&& (63 : Int32))) &&& (255 : Int32)), iv (((128 : Int32) ||| (cd &&& (63 : Int32))) &&& (255 : Int32)), iv (own_u3 cd i (fun _ => f8) (i + 3) &&& (255 : Int32))] [(.int (192 : Int32)), (.int (((128 : Int32) ||| ((cd >>> ((6 : Int32) &&& 31)) &&& (63 : Int32))) &&& (255 : Int32)))]))
        refine Ends.go (fun _ => XS.iand X8.here hx rfl (hb hby at_404) rfl) ?_
        show Ends p.tables e below G (T8.setTop (mkF m 405 #[iv vc, iv va, iv vf, iv cd, iv atv, iv f8, rv b1, iv (3 : Int32), iv (3 : Int32), iv (((224 : Int32) ||| (cd >>> ((12 : Int32) &&& 31))) &&& (255 : Int32)), iv (((128 : Int32) ||| ((cd >>> ((6 : Int32) &&& 31)) &&& (63 : Int32))) &&& (255 : Int32)), iv (((128 : Int32) ||| (cd &&& (63 : Int32))) &&& (255 : Int32)), iv (own_u3 cd i (fun _ => f8) (i + 3) &&& (255 : Int32))] [(.int ((((128 : Int32) ||| ((cd >>> ((6 : Int32) &&& 31)) &&& (63 : Int32))) &&& (255 : Int32)) &&& (192 : Int32)))]))
        refine Ends.go (fun _ => XS.sipush X8.here hx rfl (hb hby at_405)) ?_
        show Ends p.tables e below G (T8.setTop (mkF m 408 #[iv vc, iv va, iv vf, iv cd, iv atv, iv f8, rv b1, iv (3 : Int32), iv (3 : Int32), iv (((224 : Int32) ||| (cd >>> ((12 : Int32) &&& 31))) &&& (255 : Int32)), iv (((128 : Int32) ||| ((cd >>> ((6 : Int32) &&& 31)) &&& (63 : Int32))) &&& (255 : Int32)), iv (((128 : Int32) ||| (cd &&& (63 : Int32))) &&& (255 : Int32)), iv (own_u3 cd i (fun _ => f8) (i + 3) &&& (255 : Int32))] [(.int (128 : Int32)), (.int ((((128 : Int32) ||| ((cd >>> ((6 : Int32) &&& 31)) &&& (63 : Int32))) &&& (255 : Int32)) &&& (192 : Int32)))]))
        refine Ends.go (fun _ => XS.icmpNo X8.here hx rfl (hb hby at_408) rfl (teq (own_c3_1 hcd (by omega) : ((((128 : Int32) ||| ((cd >>> ((6 : Int32) &&& 31)) &&& (63 : Int32))) &&& (255 : Int32)) &&& (192 : Int32)) = (128 : Int32))).2) ?_
        show Ends p.tables e below G (T8.setTop (mkF m 411 #[iv vc, iv va, iv vf, iv cd, iv atv, iv f8, rv b1, iv (3 : Int32), iv (3 : Int32), iv (((224 : Int32) ||| (cd >>> ((12 : Int32) &&& 31))) &&& (255 : Int32)), iv (((128 : Int32) ||| ((cd >>> ((6 : Int32) &&& 31)) &&& (63 : Int32))) &&& (255 : Int32)), iv (((128 : Int32) ||| (cd &&& (63 : Int32))) &&& (255 : Int32)), iv (own_u3 cd i (fun _ => f8) (i + 3) &&& (255 : Int32))] []))
        refine Ends.go (fun _ => XS.iload X8.here hx rfl (hb hby at_411) rfl) ?_
        show Ends p.tables e below G (T8.setTop (mkF m 413 #[iv vc, iv va, iv vf, iv cd, iv atv, iv f8, rv b1, iv (3 : Int32), iv (3 : Int32), iv (((224 : Int32) ||| (cd >>> ((12 : Int32) &&& 31))) &&& (255 : Int32)), iv (((128 : Int32) ||| ((cd >>> ((6 : Int32) &&& 31)) &&& (63 : Int32))) &&& (255 : Int32)), iv (((128 : Int32) ||| (cd &&& (63 : Int32))) &&& (255 : Int32)), iv (own_u3 cd i (fun _ => f8) (i + 3) &&& (255 : Int32))] [(.int (((128 : Int32) ||| (cd &&& (63 : Int32))) &&& (255 : Int32)))]))
        refine Ends.go (fun _ => XS.sipush X8.here hx rfl (hb hby at_413)) ?_
        show Ends p.tables e below G (T8.setTop (mkF m 416 #[iv vc, iv va, iv vf, iv cd, iv atv, iv f8, rv b1, iv (3 : Int32), iv (3 : Int32), iv (((224 : Int32) ||| (cd >>> ((12 : Int32) &&& 31))) &&& (255 : Int32)), iv (((128 : Int32) ||| ((cd >>> ((6 : Int32) &&& 31)) &&& (63 : Int32))) &&& (255 : Int32)), iv (((128 : Int32) ||| (cd &&& (63 : Int32))) &&& (255 : Int32)), iv (own_u3 cd i (fun _ => f8) (i + 3) &&& (255 : Int32))] [(.int (192 : Int32)), (.int (((128 : Int32) ||| (cd &&& (63 : Int32))) &&& (255 : Int32)))]))
        refine Ends.go (fun _ => XS.iand X8.here hx rfl (hb hby at_416) rfl) ?_
        show Ends p.tables e below G (T8.setTop (mkF m 417 #[iv vc, iv va, iv vf, iv cd, iv atv, iv f8, rv b1, iv (3 : Int32), iv (3 : Int32), iv (((224 : Int32) ||| (cd >>> ((12 : Int32) &&& 31))) &&& (255 : Int32)), iv (((128 : Int32) ||| ((cd >>> ((6 : Int32) &&& 31)) &&& (63 : Int32))) &&& (255 : Int32)), iv (((128 : Int32) ||| (cd &&& (63 : Int32))) &&& (255 : Int32)), iv (own_u3 cd i (fun _ => f8) (i + 3) &&& (255 : Int32))] [(.int ((((128 : Int32) ||| (cd &&& (63 : Int32))) &&& (255 : Int32)) &&& (192 : Int32)))]))
        refine Ends.go (fun _ => XS.sipush X8.here hx rfl (hb hby at_417)) ?_
        show Ends p.tables e below G (T8.setTop (mkF m 420 #[iv vc, iv va, iv vf, iv cd, iv atv, iv f8, rv b1, iv (3 : Int32), iv (3 : Int32), iv (((224 : Int32) ||| (cd >>> ((12 : Int32) &&& 31))) &&& (255 : Int32)), iv (((128 : Int32) ||| ((cd >>> ((6 : Int32) &&& 31)) &&& (63 : Int32))) &&& (255 : Int32)), iv (((128 : Int32) ||| (cd &&& (63 : Int32))) &&& (255 : Int32)), iv (own_u3 cd i (fun _ => f8) (i + 3) &&& (255 : Int32))] [(.int (128 : Int32)), (.int ((((128 : Int32) ||| (cd &&& (63 : Int32))) &&& (255 : Int32)) &&& (192 : Int32)))]))
        refine Ends.go (fun _ => XS.icmpNo X8.here hx rfl (hb hby at_420) rfl (teq (own_c3_2 hcd (by omega) : ((((128 : Int32) ||| (cd &&& (63 : Int32))) &&& (255 : Int32)) &&& (192 : Int32)) = (128 : Int32))).2) ?_
        show Ends p.tables e below G (T8.setTop (mkF m 423 #[iv vc, iv va, iv vf, iv cd, iv atv, iv f8, rv b1, iv (3 : Int32), iv (3 : Int32), iv (((224 : Int32) ||| (cd >>> ((12 : Int32) &&& 31))) &&& (255 : Int32)), iv (((128 : Int32) ||| ((cd >>> ((6 : Int32) &&& 31)) &&& (63 : Int32))) &&& (255 : Int32)), iv (((128 : Int32) ||| (cd &&& (63 : Int32))) &&& (255 : Int32)), iv (own_u3 cd i (fun _ => f8) (i + 3) &&& (255 : Int32))] []))
        refine Ends.go (fun _ => XS.iload X8.here hx rfl (hb hby at_423) rfl) ?_
        show Ends p.tables e below G (T8.setTop (mkF m 425 #[iv vc, iv va, iv vf, iv cd, iv atv, iv f8, rv b1, iv (3 : Int32), iv (3 : Int32), iv (((224 : Int32) ||| (cd >>> ((12 : Int32) &&& 31))) &&& (255 : Int32)), iv (((128 : Int32) ||| ((cd >>> ((6 : Int32) &&& 31)) &&& (63 : Int32))) &&& (255 : Int32)), iv (((128 : Int32) ||| (cd &&& (63 : Int32))) &&& (255 : Int32)), iv (own_u3 cd i (fun _ => f8) (i + 3) &&& (255 : Int32))] [(.int (((224 : Int32) ||| (cd >>> ((12 : Int32) &&& 31))) &&& (255 : Int32)))]))
        refine Ends.go (fun _ => XS.bipush X8.here hx rfl (hb hby at_425)) ?_
        show Ends p.tables e below G (T8.setTop (mkF m 427 #[iv vc, iv va, iv vf, iv cd, iv atv, iv f8, rv b1, iv (3 : Int32), iv (3 : Int32), iv (((224 : Int32) ||| (cd >>> ((12 : Int32) &&& 31))) &&& (255 : Int32)), iv (((128 : Int32) ||| ((cd >>> ((6 : Int32) &&& 31)) &&& (63 : Int32))) &&& (255 : Int32)), iv (((128 : Int32) ||| (cd &&& (63 : Int32))) &&& (255 : Int32)), iv (own_u3 cd i (fun _ => f8) (i + 3) &&& (255 : Int32))] [(.int (15 : Int32)), (.int (((224 : Int32) ||| (cd >>> ((12 : Int32) &&& 31))) &&& (255 : Int32)))]))
        refine Ends.go (fun _ => XS.iand X8.here hx rfl (hb hby at_427) rfl) ?_
        show Ends p.tables e below G (T8.setTop (mkF m 428 #[iv vc, iv va, iv vf, iv cd, iv atv, iv f8, rv b1, iv (3 : Int32), iv (3 : Int32), iv (((224 : Int32) ||| (cd >>> ((12 : Int32) &&& 31))) &&& (255 : Int32)), iv (((128 : Int32) ||| ((cd >>> ((6 : Int32) &&& 31)) &&& (63 : Int32))) &&& (255 : Int32)), iv (((128 : Int32) ||| (cd &&& (63 : Int32))) &&& (255 : Int32)), iv (own_u3 cd i (fun _ => f8) (i + 3) &&& (255 : Int32))] [(.int ((((224 : Int32) ||| (cd >>> ((12 : Int32) &&& 31))) &&& (255 : Int32)) &&& (15 : Int32)))]))
        refine Ends.go (fun _ => XS.bipush X8.here hx rfl (hb hby at_428)) ?_
        show Ends p.tables e below G (T8.setTop (mkF m 430 #[iv vc, iv va, iv vf, iv cd, iv atv, iv f8, rv b1, iv (3 : Int32), iv (3 : Int32), iv (((224 : Int32) ||| (cd >>> ((12 : Int32) &&& 31))) &&& (255 : Int32)), iv (((128 : Int32) ||| ((cd >>> ((6 : Int32) &&& 31)) &&& (63 : Int32))) &&& (255 : Int32)), iv (((128 : Int32) ||| (cd &&& (63 : Int32))) &&& (255 : Int32)), iv (own_u3 cd i (fun _ => f8) (i + 3) &&& (255 : Int32))] [(.int (12 : Int32)), (.int ((((224 : Int32) ||| (cd >>> ((12 : Int32) &&& 31))) &&& (255 : Int32)) &&& (15 : Int32)))]))
        refine Ends.go (fun _ => XS.ishl X8.here hx rfl (hb hby at_430) rfl) ?_
        show Ends p.tables e below G (T8.setTop (mkF m 431 #[iv vc, iv va, iv vf, iv cd, iv atv, iv f8, rv b1, iv (3 : Int32), iv (3 : Int32), iv (((224 : Int32) ||| (cd >>> ((12 : Int32) &&& 31))) &&& (255 : Int32)), iv (((128 : Int32) ||| ((cd >>> ((6 : Int32) &&& 31)) &&& (63 : Int32))) &&& (255 : Int32)), iv (((128 : Int32) ||| (cd &&& (63 : Int32))) &&& (255 : Int32)), iv (own_u3 cd i (fun _ => f8) (i + 3) &&& (255 : Int32))] [(.int (((((224 : Int32) ||| (cd >>> ((12 : Int32) &&& 31))) &&& (255 : Int32)) &&& (15 : Int32)) <<< ((12 : Int32) &&& 31)))]))
        refine Ends.go (fun _ => XS.iload X8.here hx rfl (hb hby at_431) rfl) ?_
        show Ends p.tables e below G (T8.setTop (mkF m 433 #[iv vc, iv va, iv vf, iv cd, iv atv, iv f8, rv b1, iv (3 : Int32), iv (3 : Int32), iv (((224 : Int32) ||| (cd >>> ((12 : Int32) &&& 31))) &&& (255 : Int32)), iv (((128 : Int32) ||| ((cd >>> ((6 : Int32) &&& 31)) &&& (63 : Int32))) &&& (255 : Int32)), iv (((128 : Int32) ||| (cd &&& (63 : Int32))) &&& (255 : Int32)), iv (own_u3 cd i (fun _ => f8) (i + 3) &&& (255 : Int32))] [(.int (((128 : Int32) ||| ((cd >>> ((6 : Int32) &&& 31)) &&& (63 : Int32))) &&& (255 : Int32))), (.int (((((224 : Int32) ||| (cd >>> ((12 : Int32) &&& 31))) &&& (255 : Int32)) &&& (15 : Int32)) <<< ((12 : Int32) &&& 31)))]))
        refine Ends.go (fun _ => XS.bipush X8.here hx rfl (hb hby at_433)) ?_
        show Ends p.tables e below G (T8.setTop (mkF m 435 #[iv vc, iv va, iv vf, iv cd, iv atv, iv f8, rv b1, iv (3 : Int32), iv (3 : Int32), iv (((224 : Int32) ||| (cd >>> ((12 : Int32) &&& 31))) &&& (255 : Int32)), iv (((128 : Int32) ||| ((cd >>> ((6 : Int32) &&& 31)) &&& (63 : Int32))) &&& (255 : Int32)), iv (((128 : Int32) ||| (cd &&& (63 : Int32))) &&& (255 : Int32)), iv (own_u3 cd i (fun _ => f8) (i + 3) &&& (255 : Int32))] [(.int (63 : Int32)), (.int (((128 : Int32) ||| ((cd >>> ((6 : Int32) &&& 31)) &&& (63 : Int32))) &&& (255 : Int32))), (.int (((((224 : Int32) ||| (cd >>> ((12 : Int32) &&& 31))) &&& (255 : Int32)) &&& (15 : Int32)) <<< ((12 : Int32) &&& 31)))]))
        refine Ends.go (fun _ => XS.iand X8.here hx rfl (hb hby at_435) rfl) ?_
        show Ends p.tables e below G (T8.setTop (mkF m 436 #[iv vc, iv va, iv vf, iv cd, iv atv, iv f8, rv b1, iv (3 : Int32), iv (3 : Int32), iv (((224 : Int32) ||| (cd >>> ((12 : Int32) &&& 31))) &&& (255 : Int32)), iv (((128 : Int32) ||| ((cd >>> ((6 : Int32) &&& 31)) &&& (63 : Int32))) &&& (255 : Int32)), iv (((128 : Int32) ||| (cd &&& (63 : Int32))) &&& (255 : Int32)), iv (own_u3 cd i (fun _ => f8) (i + 3) &&& (255 : Int32))] [(.int ((((128 : Int32) ||| ((cd >>> ((6 : Int32) &&& 31)) &&& (63 : Int32))) &&& (255 : Int32)) &&& (63 : Int32))), (.int (((((224 : Int32) ||| (cd >>> ((12 : Int32) &&& 31))) &&& (255 : Int32)) &&& (15 : Int32)) <<< ((12 : Int32) &&& 31)))]))
        refine Ends.go (fun _ => XS.bipush X8.here hx rfl (hb hby at_436)) ?_
        show Ends p.tables e below G (T8.setTop (mkF m 438 #[iv vc, iv va, iv vf, iv cd, iv atv, iv f8, rv b1, iv (3 : Int32), iv (3 : Int32), iv (((224 : Int32) ||| (cd >>> ((12 : Int32) &&& 31))) &&& (255 : Int32)), iv (((128 : Int32) ||| ((cd >>> ((6 : Int32) &&& 31)) &&& (63 : Int32))) &&& (255 : Int32)), iv (((128 : Int32) ||| (cd &&& (63 : Int32))) &&& (255 : Int32)), iv (own_u3 cd i (fun _ => f8) (i + 3) &&& (255 : Int32))] [(.int (6 : Int32)), (.int ((((128 : Int32) ||| ((cd >>> ((6 : Int32) &&& 31)) &&& (63 : Int32))) &&& (255 : Int32)) &&& (63 : Int32))), (.int (((((224 : Int32) ||| (cd >>> ((12 : Int32) &&& 31))) &&& (255 : Int32)) &&& (15 : Int32)) <<< ((12 : Int32) &&& 31)))]))
        refine Ends.go (fun _ => XS.ishl X8.here hx rfl (hb hby at_438) rfl) ?_
        show Ends p.tables e below G (T8.setTop (mkF m 439 #[iv vc, iv va, iv vf, iv cd, iv atv, iv f8, rv b1, iv (3 : Int32), iv (3 : Int32), iv (((224 : Int32) ||| (cd >>> ((12 : Int32) &&& 31))) &&& (255 : Int32)), iv (((128 : Int32) ||| ((cd >>> ((6 : Int32) &&& 31)) &&& (63 : Int32))) &&& (255 : Int32)), iv (((128 : Int32) ||| (cd &&& (63 : Int32))) &&& (255 : Int32)), iv (own_u3 cd i (fun _ => f8) (i + 3) &&& (255 : Int32))] [(.int (((((128 : Int32) ||| ((cd >>> ((6 : Int32) &&& 31)) &&& (63 : Int32))) &&& (255 : Int32)) &&& (63 : Int32)) <<< ((6 : Int32) &&& 31))), (.int (((((224 : Int32) ||| (cd >>> ((12 : Int32) &&& 31))) &&& (255 : Int32)) &&& (15 : Int32)) <<< ((12 : Int32) &&& 31)))]))
        refine Ends.go (fun _ => XS.ior X8.here hx rfl (hb hby at_439) rfl) ?_
        show Ends p.tables e below G (T8.setTop (mkF m 440 #[iv vc, iv va, iv vf, iv cd, iv atv, iv f8, rv b1, iv (3 : Int32), iv (3 : Int32), iv (((224 : Int32) ||| (cd >>> ((12 : Int32) &&& 31))) &&& (255 : Int32)), iv (((128 : Int32) ||| ((cd >>> ((6 : Int32) &&& 31)) &&& (63 : Int32))) &&& (255 : Int32)), iv (((128 : Int32) ||| (cd &&& (63 : Int32))) &&& (255 : Int32)), iv (own_u3 cd i (fun _ => f8) (i + 3) &&& (255 : Int32))] [(.int ((((((224 : Int32) ||| (cd >>> ((12 : Int32) &&& 31))) &&& (255 : Int32)) &&& (15 : Int32)) <<< ((12 : Int32) &&& 31)) ||| (((((128 : Int32) ||| ((cd >>> ((6 : Int32) &&& 31)) &&& (63 : Int32))) &&& (255 : Int32)) &&& (63 : Int32)) <<< ((6 : Int32) &&& 31))))]))
        refine Ends.go (fun _ => XS.iload X8.here hx rfl (hb hby at_440) rfl) ?_
        show Ends p.tables e below G (T8.setTop (mkF m 442 #[iv vc, iv va, iv vf, iv cd, iv atv, iv f8, rv b1, iv (3 : Int32), iv (3 : Int32), iv (((224 : Int32) ||| (cd >>> ((12 : Int32) &&& 31))) &&& (255 : Int32)), iv (((128 : Int32) ||| ((cd >>> ((6 : Int32) &&& 31)) &&& (63 : Int32))) &&& (255 : Int32)), iv (((128 : Int32) ||| (cd &&& (63 : Int32))) &&& (255 : Int32)), iv (own_u3 cd i (fun _ => f8) (i + 3) &&& (255 : Int32))] [(.int (((128 : Int32) ||| (cd &&& (63 : Int32))) &&& (255 : Int32))), (.int ((((((224 : Int32) ||| (cd >>> ((12 : Int32) &&& 31))) &&& (255 : Int32)) &&& (15 : Int32)) <<< ((12 : Int32) &&& 31)) ||| (((((128 : Int32) ||| ((cd >>> ((6 : Int32) &&& 31)) &&& (63 : Int32))) &&& (255 : Int32)) &&& (63 : Int32)) <<< ((6 : Int32) &&& 31))))]))
        refine Ends.go (fun _ => XS.bipush X8.here hx rfl (hb hby at_442)) ?_
        show Ends p.tables e below G (T8.setTop (mkF m 444 #[iv vc, iv va, iv vf, iv cd, iv atv, iv f8, rv b1, iv (3 : Int32), iv (3 : Int32), iv (((224 : Int32) ||| (cd >>> ((12 : Int32) &&& 31))) &&& (255 : Int32)), iv (((128 : Int32) ||| ((cd >>> ((6 : Int32) &&& 31)) &&& (63 : Int32))) &&& (255 : Int32)), iv (((128 : Int32) ||| (cd &&& (63 : Int32))) &&& (255 : Int32)), iv (own_u3 cd i (fun _ => f8) (i + 3) &&& (255 : Int32))] [(.int (63 : Int32)), (.int (((128 : Int32) ||| (cd &&& (63 : Int32))) &&& (255 : Int32))), (.int ((((((224 : Int32) ||| (cd >>> ((12 : Int32) &&& 31))) &&& (255 : Int32)) &&& (15 : Int32)) <<< ((12 : Int32) &&& 31)) ||| (((((128 : Int32) ||| ((cd >>> ((6 : Int32) &&& 31)) &&& (63 : Int32))) &&& (255 : Int32)) &&& (63 : Int32)) <<< ((6 : Int32) &&& 31))))]))
        refine Ends.go (fun _ => XS.iand X8.here hx rfl (hb hby at_444) rfl) ?_
        show Ends p.tables e below G (T8.setTop (mkF m 445 #[iv vc, iv va, iv vf, iv cd, iv atv, iv f8, rv b1, iv (3 : Int32), iv (3 : Int32), iv (((224 : Int32) ||| (cd >>> ((12 : Int32) &&& 31))) &&& (255 : Int32)), iv (((128 : Int32) ||| ((cd >>> ((6 : Int32) &&& 31)) &&& (63 : Int32))) &&& (255 : Int32)), iv (((128 : Int32) ||| (cd &&& (63 : Int32))) &&& (255 : Int32)), iv (own_u3 cd i (fun _ => f8) (i + 3) &&& (255 : Int32))] [(.int ((((128 : Int32) ||| (cd &&& (63 : Int32))) &&& (255 : Int32)) &&& (63 : Int32))), (.int ((((((224 : Int32) ||| (cd >>> ((12 : Int32) &&& 31))) &&& (255 : Int32)) &&& (15 : Int32)) <<< ((12 : Int32) &&& 31)) ||| (((((128 : Int32) ||| ((cd >>> ((6 : Int32) &&& 31)) &&& (63 : Int32))) &&& (255 : Int32)) &&& (63 : Int32)) <<< ((6 : Int32) &&& 31))))]))
        refine Ends.go (fun _ => XS.ior X8.here hx rfl (hb hby at_445) rfl) ?_
        show Ends p.tables e below G (T8.setTop (mkF m 446 #[iv vc, iv va, iv vf, iv cd, iv atv, iv f8, rv b1, iv (3 : Int32), iv (3 : Int32), iv (((224 : Int32) ||| (cd >>> ((12 : Int32) &&& 31))) &&& (255 : Int32)), iv (((128 : Int32) ||| ((cd >>> ((6 : Int32) &&& 31)) &&& (63 : Int32))) &&& (255 : Int32)), iv (((128 : Int32) ||| (cd &&& (63 : Int32))) &&& (255 : Int32)), iv (own_u3 cd i (fun _ => f8) (i + 3) &&& (255 : Int32))] [(.int (((((((224 : Int32) ||| (cd >>> ((12 : Int32) &&& 31))) &&& (255 : Int32)) &&& (15 : Int32)) <<< ((12 : Int32) &&& 31)) ||| (((((128 : Int32) ||| ((cd >>> ((6 : Int32) &&& 31)) &&& (63 : Int32))) &&& (255 : Int32)) &&& (63 : Int32)) <<< ((6 : Int32) &&& 31))) ||| ((((128 : Int32) ||| (cd &&& (63 : Int32))) &&& (255 : Int32)) &&& (63 : Int32))))]))
        refine Ends.go (fun _ => XS.iloadN X8.here hx rfl (hb hby at_446) rfl) ?_
        show Ends p.tables e below G (T8.setTop (mkF m 447 #[iv vc, iv va, iv vf, iv cd, iv atv, iv f8, rv b1, iv (3 : Int32), iv (3 : Int32), iv (((224 : Int32) ||| (cd >>> ((12 : Int32) &&& 31))) &&& (255 : Int32)), iv (((128 : Int32) ||| ((cd >>> ((6 : Int32) &&& 31)) &&& (63 : Int32))) &&& (255 : Int32)), iv (((128 : Int32) ||| (cd &&& (63 : Int32))) &&& (255 : Int32)), iv (own_u3 cd i (fun _ => f8) (i + 3) &&& (255 : Int32))] [(.int cd), (.int (((((((224 : Int32) ||| (cd >>> ((12 : Int32) &&& 31))) &&& (255 : Int32)) &&& (15 : Int32)) <<< ((12 : Int32) &&& 31)) ||| (((((128 : Int32) ||| ((cd >>> ((6 : Int32) &&& 31)) &&& (63 : Int32))) &&& (255 : Int32)) &&& (63 : Int32)) <<< ((6 : Int32) &&& 31))) ||| ((((128 : Int32) ||| (cd &&& (63 : Int32))) &&& (255 : Int32)) &&& (63 : Int32))))]))
        refine Ends.go (fun _ => XS.icmpNo X8.here hx rfl (hb hby at_447) rfl (teq (own_c3_s hcd (by omega) : (((((((224 : Int32) ||| (cd >>> ((12 : Int32) &&& 31))) &&& (255 : Int32)) &&& (15 : Int32)) <<< ((12 : Int32) &&& 31)) ||| (((((128 : Int32) ||| ((cd >>> ((6 : Int32) &&& 31)) &&& (63 : Int32))) &&& (255 : Int32)) &&& (63 : Int32)) <<< ((6 : Int32) &&& 31))) ||| ((((128 : Int32) ||| (cd &&& (63 : Int32))) &&& (255 : Int32)) &&& (63 : Int32))) = cd)).2) ?_
        show Ends p.tables e below G (T8.setTop (mkF m 450 #[iv vc, iv va, iv vf, iv cd, iv atv, iv f8, rv b1, iv (3 : Int32), iv (3 : Int32), iv (((224 : Int32) ||| (cd >>> ((12 : Int32) &&& 31))) &&& (255 : Int32)), iv (((128 : Int32) ||| ((cd >>> ((6 : Int32) &&& 31)) &&& (63 : Int32))) &&& (255 : Int32)), iv (((128 : Int32) ||| (cd &&& (63 : Int32))) &&& (255 : Int32)), iv (own_u3 cd i (fun _ => f8) (i + 3) &&& (255 : Int32))] []))
        refine Ends.go (fun _ => XS.iconst X8.here hx rfl (hb hby at_450)) ?_
        show Ends p.tables e below G (T8.setTop (mkF m 451 #[iv vc, iv va, iv vf, iv cd, iv atv, iv f8, rv b1, iv (3 : Int32), iv (3 : Int32), iv (((224 : Int32) ||| (cd >>> ((12 : Int32) &&& 31))) &&& (255 : Int32)), iv (((128 : Int32) ||| ((cd >>> ((6 : Int32) &&& 31)) &&& (63 : Int32))) &&& (255 : Int32)), iv (((128 : Int32) ||| (cd &&& (63 : Int32))) &&& (255 : Int32)), iv (own_u3 cd i (fun _ => f8) (i + 3) &&& (255 : Int32))] [(.int (1 : Int32))]))
        refine Ends.go (fun _ => XS.goto X8.here hx rfl (pc0 := 451) (pc' := 455) rfl (hb hby at_451) (by decide) (by decide)) ?_
        show Ends p.tables e below G (T8.setTop (mkF m 455 #[iv vc, iv va, iv vf, iv cd, iv atv, iv f8, rv b1, iv (3 : Int32), iv (3 : Int32), iv (((224 : Int32) ||| (cd >>> ((12 : Int32) &&& 31))) &&& (255 : Int32)), iv (((128 : Int32) ||| ((cd >>> ((6 : Int32) &&& 31)) &&& (63 : Int32))) &&& (255 : Int32)), iv (((128 : Int32) ||| (cd &&& (63 : Int32))) &&& (255 : Int32)), iv (own_u3 cd i (fun _ => f8) (i + 3) &&& (255 : Int32))] [(.int (1 : Int32))]))
        refine own_finS (t := .boolean) X8 hx Bd.returns (by simp) Bd.notSynchronized (hb hby at_455) (Q := (Q0 Z vc va vf h0 n0)) hG (by decide) (by decide) ?_
        show (Q0 Z vc va vf h0 n0) _ T8.heap _
        exact ⟨rfl, N8⟩
      · skip
        obtain ⟨_, _, ⟨T21, L21, k21, n21⟩, -, X21, ⟨Lc21, hQ21, l21, y21, z21⟩, st21⟩ := Jvm.LawKit.callS X9 hx (y := (⟨"com/example/belge/belge/XmlScanner", "utf8", "(I[BI)I"⟩ : MethodName)) hown (mvT hZ (hw _ (List.mem_of_getElem? (i := 3) rfl))) (mvT hZ (hw _ (List.mem_of_getElem? (i := 4) rfl))) (mvT hZ (hw _ (List.mem_of_getElem? (i := 5) rfl))) (mvT hZ (hw _ (List.mem_of_getElem? (i := 6) rfl))) (by decide) (backOf (W := 0) (rm1x4 l Z a0 hw [] cd b1 atv cn i (fun _ => f8) h9 n0 sz9 V0 g_b1 hcd hat hi (by omega)) hZ (hw _ (List.mem_of_getElem? (i := 6) rfl)) (hw _ (List.mem_of_getElem? (i := 5) rfl)) (by decide) (by decide)) (g := (mkF m 78 #[iv vc, iv va, iv vf, iv cd, iv atv, iv f8, rv b1, un, un, un, un, un, un] [(.int atv), (.ref b1), (.int cd)])) rfl (by rw [hml]; rfl) (argsL := [(.int cd), (.ref b1), (.int atv)]) (rest := []) (lenOf pd_0 rfl) rfl (by show 2 * 0 + _ ≤ _; exact Nat.le_of_eq rfl) (hb hby at_78) (fun _ _ => ⟨rfl, e9, (by decide : (0 + 1) + 0 ≤ _), (by decide : (0 + 8) + 0 ≤ _)⟩)
        dsimp only [Pt.U, Pt.locs, Pt.cells, Pt.slots] at X21 l21 y21 z21 st21 hQ21
        subst l21 y21 z21
        obtain ⟨rfl, N21q, Kq21, V21⟩ := hQ21
        have N21 := Fr.app N9 N21q
        have sz21 := Nat.le_trans sz9 Kq21.1
        refine Ends.go (fun _ => st21 _) ?_
        show Ends p.tables e below G (T21.setTop (mkF m 81 #[iv vc, iv va, iv vf, iv cd, iv atv, iv f8, rv b1, un, un, un, un, un, un] [(.int (4 : Int32))]))
        refine Ends.go (fun _ => XS.istore X21.here hx rfl (hb hby at_81) rfl (l' := #[iv vc, iv va, iv vf, iv cd, iv atv, iv f8, rv b1, iv (4 : Int32), un, un, un, un, un]) rfl) ?_
        show Ends p.tables e below G (T21.setTop (mkF m 83 #[iv vc, iv va, iv vf, iv cd, iv atv, iv f8, rv b1, iv (4 : Int32), un, un, un, un, un] []))
        refine Ends.go (fun _ => XS.iloadN X21.here hx rfl (hb hby at_83) rfl) ?_
        show Ends p.tables e below G (T21.setTop (mkF m 84 #[iv vc, iv va, iv vf, iv cd, iv atv, iv f8, rv b1, iv (4 : Int32), un, un, un, un, un] [(.int cd)]))
        refine Ends.go (fun _ => XS.sipush X21.here hx rfl (hb hby at_84)) ?_
        show Ends p.tables e below G (T21.setTop (mkF m 87 #[iv vc, iv va, iv vf, iv cd, iv atv, iv f8, rv b1, iv (4 : Int32), un, un, un, un, un] [(.int (128 : Int32)), (.int cd)]))
        refine Ends.go (fun _ => XS.icmpYes X21.here hx rfl (pc0 := 87) (pc' := 94) rfl (hb hby at_87) rfl (flt (fun z => absurd ((own_lt hcd (b := 128) rfl).mp z) (by omega) : ¬ (cd < (128 : Int32)))).2.1 (by decide) (by decide)) ?_
        show Ends p.tables e below G (T21.setTop (mkF m 94 #[iv vc, iv va, iv vf, iv cd, iv atv, iv f8, rv b1, iv (4 : Int32), un, un, un, un, un] []))
        refine Ends.go (fun _ => XS.iloadN X21.here hx rfl (hb hby at_94) rfl) ?_
        show Ends p.tables e below G (T21.setTop (mkF m 95 #[iv vc, iv va, iv vf, iv cd, iv atv, iv f8, rv b1, iv (4 : Int32), un, un, un, un, un] [(.int cd)]))
        refine Ends.go (fun _ => XS.sipush X21.here hx rfl (hb hby at_95)) ?_
        show Ends p.tables e below G (T21.setTop (mkF m 98 #[iv vc, iv va, iv vf, iv cd, iv atv, iv f8, rv b1, iv (4 : Int32), un, un, un, un, un] [(.int (2048 : Int32)), (.int cd)]))
        refine Ends.go (fun _ => XS.icmpYes X21.here hx rfl (pc0 := 98) (pc' := 105) rfl (hb hby at_98) rfl (flt (fun z => absurd ((own_lt hcd (b := 2048) rfl).mp z) (by omega) : ¬ (cd < (2048 : Int32)))).2.1 (by decide) (by decide)) ?_
        show Ends p.tables e below G (T21.setTop (mkF m 105 #[iv vc, iv va, iv vf, iv cd, iv atv, iv f8, rv b1, iv (4 : Int32), un, un, un, un, un] []))
        refine Ends.go (fun _ => XS.iloadN X21.here hx rfl (hb hby at_105) rfl) ?_
        show Ends p.tables e below G (T21.setTop (mkF m 106 #[iv vc, iv va, iv vf, iv cd, iv atv, iv f8, rv b1, iv (4 : Int32), un, un, un, un, un] [(.int cd)]))
        refine Ends.go (fun _ => X21.ldcInt hx hown (mvT hZ (hw _ (List.mem_of_getElem? (i := 12) rfl))) (g := (mkF m 106 #[iv vc, iv va, iv vf, iv cd, iv atv, iv f8, rv b1, iv (4 : Int32), un, un, un, un, un] [(.int cd)])) rfl (hb hby at_106) _) ?_
        show Ends p.tables e below G (T21.setTop (mkF m 108 #[iv vc, iv va, iv vf, iv cd, iv atv, iv f8, rv b1, iv (4 : Int32), un, un, un, un, un] [(.int (65536 : Int32)), (.int cd)]))
        refine Ends.go (fun _ => XS.icmpYes X21.here hx rfl (pc0 := 108) (pc' := 115) rfl (hb hby at_108) rfl (flt (fun z => absurd ((own_lt hcd (b := 65536) rfl).mp z) (by omega) : ¬ (cd < (65536 : Int32)))).2.1 (by decide) (by decide)) ?_
        show Ends p.tables e below G (T21.setTop (mkF m 115 #[iv vc, iv va, iv vf, iv cd, iv atv, iv f8, rv b1, iv (4 : Int32), un, un, un, un, un] []))
        refine Ends.go (fun _ => XS.iconst X21.here hx rfl (hb hby at_115)) ?_
        show Ends p.tables e below G (T21.setTop (mkF m 116 #[iv vc, iv va, iv vf, iv cd, iv atv, iv f8, rv b1, iv (4 : Int32), un, un, un, un, un] [(.int (4 : Int32))]))
        refine Ends.go (fun _ => XS.istore X21.here hx rfl (hb hby at_116) rfl (l' := #[iv vc, iv va, iv vf, iv cd, iv atv, iv f8, rv b1, iv (4 : Int32), iv (4 : Int32), un, un, un, un]) rfl) ?_
        show Ends p.tables e below G (T21.setTop (mkF m 118 #[iv vc, iv va, iv vf, iv cd, iv atv, iv f8, rv b1, iv (4 : Int32), iv (4 : Int32), un, un, un, un] []))
        refine Ends.go (fun _ => XS.iload X21.here hx rfl (hb hby at_118) rfl) ?_
        show Ends p.tables e below G (T21.setTop (mkF m 120 #[iv vc, iv va, iv vf, iv cd, iv atv, iv f8, rv b1, iv (4 : Int32), iv (4 : Int32), un, un, un, un] [(.int (4 : Int32))]))
        refine Ends.go (fun _ => XS.iload X21.here hx rfl (hb hby at_120) rfl) ?_
        show Ends p.tables e below G (T21.setTop (mkF m 122 #[iv vc, iv va, iv vf, iv cd, iv atv, iv f8, rv b1, iv (4 : Int32), iv (4 : Int32), un, un, un, un] [(.int (4 : Int32)), (.int (4 : Int32))]))
        refine Ends.go (fun _ => XS.icmpYes X21.here hx rfl (pc0 := 122) (pc' := 127) rfl (hb hby at_122) rfl (teq (rfl : (4 : Int32) = (4 : Int32))).1 (by decide) (by decide)) ?_
        show Ends p.tables e below G (T21.setTop (mkF m 127 #[iv vc, iv va, iv vf, iv cd, iv atv, iv f8, rv b1, iv (4 : Int32), iv (4 : Int32), un, un, un, un] []))
        refine tail _ _ _ _ 4 (own_u4 cd i (fun _ => f8)) X21 N21 sz21 V21 rfl (by decide) (own_u4_o cd f8 i) (fun T8 X8L X8 N8 => ?_)
        show Ends p.tables e below G (T8.setTop (mkF m 301 #[iv vc, iv va, iv vf, iv cd, iv atv, iv f8, rv b1, iv (4 : Int32), iv (4 : Int32), iv (own_u4 cd i (fun _ => f8) i &&& (255 : Int32)), iv (own_u4 cd i (fun _ => f8) (i + 1) &&& (255 : Int32)), iv (own_u4 cd i (fun _ => f8) (i + 2) &&& (255 : Int32)), iv (own_u4 cd i (fun _ => f8) (i + 3) &&& (255 : Int32))] []))
        rw [show (own_u4 cd i (fun _ => f8) i &&& (255 : Int32)) = (((240 : Int32) ||| (cd >>> ((18 : Int32) &&& 31))) &&& (255 : Int32)) from by rw [own_u4_0]; exact own_low _]
        show Ends p.tables e below G (T8.setTop (mkF m 301 #[iv vc, iv va, iv vf, iv cd, iv atv, iv f8, rv b1, iv (4 : Int32), iv (4 : Int32), iv (((240 : Int32) ||| (cd >>> ((18 : Int32) &&& 31))) &&& (255 : Int32)), iv (own_u4 cd i (fun _ => f8) (i + 1) &&& (255 : Int32)), iv (own_u4 cd i (fun _ => f8) (i + 2) &&& (255 : Int32)), iv (own_u4 cd i (fun _ => f8) (i + 3) &&& (255 : Int32))] []))
        rw [show (own_u4 cd i (fun _ => f8) (i + 1) &&& (255 : Int32)) = (((128 : Int32) ||| ((cd >>> ((12 : Int32) &&& 31)) &&& (63 : Int32))) &&& (255 : Int32)) from by rw [own_u4_1]; exact own_low _]
        show Ends p.tables e below G (T8.setTop (mkF m 301 #[iv vc, iv va, iv vf, iv cd, iv atv, iv f8, rv b1, iv (4 : Int32), iv (4 : Int32), iv (((240 : Int32) ||| (cd >>> ((18 : Int32) &&& 31))) &&& (255 : Int32)), iv (((128 : Int32) ||| ((cd >>> ((12 : Int32) &&& 31)) &&& (63 : Int32))) &&& (255 : Int32)), iv (own_u4 cd i (fun _ => f8) (i + 2) &&& (255 : Int32)), iv (own_u4 cd i (fun _ => f8) (i + 3) &&& (255 : Int32))] []))
        rw [show (own_u4 cd i (fun _ => f8) (i + 2) &&& (255 : Int32)) = (((128 : Int32) ||| ((cd >>> ((6 : Int32) &&& 31)) &&& (63 : Int32))) &&& (255 : Int32)) from by rw [own_u4_2]; exact own_low _]
        show Ends p.tables e below G (T8.setTop (mkF m 301 #[iv vc, iv va, iv vf, iv cd, iv atv, iv f8, rv b1, iv (4 : Int32), iv (4 : Int32), iv (((240 : Int32) ||| (cd >>> ((18 : Int32) &&& 31))) &&& (255 : Int32)), iv (((128 : Int32) ||| ((cd >>> ((12 : Int32) &&& 31)) &&& (63 : Int32))) &&& (255 : Int32)), iv (((128 : Int32) ||| ((cd >>> ((6 : Int32) &&& 31)) &&& (63 : Int32))) &&& (255 : Int32)), iv (own_u4 cd i (fun _ => f8) (i + 3) &&& (255 : Int32))] []))
        rw [show (own_u4 cd i (fun _ => f8) (i + 3) &&& (255 : Int32)) = (((128 : Int32) ||| (cd &&& (63 : Int32))) &&& (255 : Int32)) from by rw [own_u4_3]; exact own_low _]
        show Ends p.tables e below G (T8.setTop (mkF m 301 #[iv vc, iv va, iv vf, iv cd, iv atv, iv f8, rv b1, iv (4 : Int32), iv (4 : Int32), iv (((240 : Int32) ||| (cd >>> ((18 : Int32) &&& 31))) &&& (255 : Int32)), iv (((128 : Int32) ||| ((cd >>> ((12 : Int32) &&& 31)) &&& (63 : Int32))) &&& (255 : Int32)), iv (((128 : Int32) ||| ((cd >>> ((6 : Int32) &&& 31)) &&& (63 : Int32))) &&& (255 : Int32)), iv (((128 : Int32) ||| (cd &&& (63 : Int32))) &&& (255 : Int32))] []))
        refine Ends.go (fun _ => XS.iload X8.here hx rfl (hb hby at_301) rfl) ?_
        show Ends p.tables e below G (T8.setTop (mkF m 303 #[iv vc, iv va, iv vf, iv cd, iv atv, iv f8, rv b1, iv (4 : Int32), iv (4 : Int32), iv (((240 : Int32) ||| (cd >>> ((18 : Int32) &&& 31))) &&& (255 : Int32)), iv (((128 : Int32) ||| ((cd >>> ((12 : Int32) &&& 31)) &&& (63 : Int32))) &&& (255 : Int32)), iv (((128 : Int32) ||| ((cd >>> ((6 : Int32) &&& 31)) &&& (63 : Int32))) &&& (255 : Int32)), iv (((128 : Int32) ||| (cd &&& (63 : Int32))) &&& (255 : Int32))] [(.int (4 : Int32))]))
        refine Ends.go (fun _ => XS.iconst X8.here hx rfl (hb hby at_303)) ?_
        show Ends p.tables e below G (T8.setTop (mkF m 304 #[iv vc, iv va, iv vf, iv cd, iv atv, iv f8, rv b1, iv (4 : Int32), iv (4 : Int32), iv (((240 : Int32) ||| (cd >>> ((18 : Int32) &&& 31))) &&& (255 : Int32)), iv (((128 : Int32) ||| ((cd >>> ((12 : Int32) &&& 31)) &&& (63 : Int32))) &&& (255 : Int32)), iv (((128 : Int32) ||| ((cd >>> ((6 : Int32) &&& 31)) &&& (63 : Int32))) &&& (255 : Int32)), iv (((128 : Int32) ||| (cd &&& (63 : Int32))) &&& (255 : Int32))] [(.int (1 : Int32)), (.int (4 : Int32))]))
        refine Ends.go (fun _ => XS.icmpYes X8.here hx rfl (pc0 := 304) (pc' := 327) rfl (hb hby at_304) rfl (feq (by decide : ¬ ((4 : Int32) = (1 : Int32)))).2 (by decide) (by decide)) ?_
        show Ends p.tables e below G (T8.setTop (mkF m 327 #[iv vc, iv va, iv vf, iv cd, iv atv, iv f8, rv b1, iv (4 : Int32), iv (4 : Int32), iv (((240 : Int32) ||| (cd >>> ((18 : Int32) &&& 31))) &&& (255 : Int32)), iv (((128 : Int32) ||| ((cd >>> ((12 : Int32) &&& 31)) &&& (63 : Int32))) &&& (255 : Int32)), iv (((128 : Int32) ||| ((cd >>> ((6 : Int32) &&& 31)) &&& (63 : Int32))) &&& (255 : Int32)), iv (((128 : Int32) ||| (cd &&& (63 : Int32))) &&& (255 : Int32))] []))
        refine Ends.go (fun _ => XS.iload X8.here hx rfl (hb hby at_327) rfl) ?_
        show Ends p.tables e below G (T8.setTop (mkF m 329 #[iv vc, iv va, iv vf, iv cd, iv atv, iv f8, rv b1, iv (4 : Int32), iv (4 : Int32), iv (((240 : Int32) ||| (cd >>> ((18 : Int32) &&& 31))) &&& (255 : Int32)), iv (((128 : Int32) ||| ((cd >>> ((12 : Int32) &&& 31)) &&& (63 : Int32))) &&& (255 : Int32)), iv (((128 : Int32) ||| ((cd >>> ((6 : Int32) &&& 31)) &&& (63 : Int32))) &&& (255 : Int32)), iv (((128 : Int32) ||| (cd &&& (63 : Int32))) &&& (255 : Int32))] [(.int (4 : Int32))]))
        refine Ends.go (fun _ => XS.iconst X8.here hx rfl (hb hby at_329)) ?_
        show Ends p.tables e below G (T8.setTop (mkF m 330 #[iv vc, iv va, iv vf, iv cd, iv atv, iv f8, rv b1, iv (4 : Int32), iv (4 : Int32), iv (((240 : Int32) ||| (cd >>> ((18 : Int32) &&& 31))) &&& (255 : Int32)), iv (((128 : Int32) ||| ((cd >>> ((12 : Int32) &&& 31)) &&& (63 : Int32))) &&& (255 : Int32)), iv (((128 : Int32) ||| ((cd >>> ((6 : Int32) &&& 31)) &&& (63 : Int32))) &&& (255 : Int32)), iv (((128 : Int32) ||| (cd &&& (63 : Int32))) &&& (255 : Int32))] [(.int (2 : Int32)), (.int (4 : Int32))]))
        refine Ends.go (fun _ => XS.icmpYes X8.here hx rfl (pc0 := 330) (pc' := 381) rfl (hb hby at_330) rfl (feq (by decide : ¬ ((4 : Int32) = (2 : Int32)))).2 (by decide) (by decide)) ?_
        show Ends p.tables e below G (T8.setTop (mkF m 381 #[iv vc, iv va, iv vf, iv cd, iv atv, iv f8, rv b1, iv (4 : Int32), iv (4 : Int32), iv (((240 : Int32) ||| (cd >>> ((18 : Int32) &&& 31))) &&& (255 : Int32)), iv (((128 : Int32) ||| ((cd >>> ((12 : Int32) &&& 31)) &&& (63 : Int32))) &&& (255 : Int32)), iv (((128 : Int32) ||| ((cd >>> ((6 : Int32) &&& 31)) &&& (63 : Int32))) &&& (255 : Int32)), iv (((128 : Int32) ||| (cd &&& (63 : Int32))) &&& (255 : Int32))] []))
        refine Ends.go (fun _ => XS.iload X8.here hx rfl (hb hby at_381) rfl) ?_
        show Ends p.tables e below G (T8.setTop (mkF m 383 #[iv vc, iv va, iv vf, iv cd, iv atv, iv f8, rv b1, iv (4 : Int32), iv (4 : Int32), iv (((240 : Int32) ||| (cd >>> ((18 : Int32) &&& 31))) &&& (255 : Int32)), iv (((128 : Int32) ||| ((cd >>> ((12 : Int32) &&& 31)) &&& (63 : Int32))) &&& (255 : Int32)), iv (((128 : Int32) ||| ((cd >>> ((6 : Int32) &&& 31)) &&& (63 : Int32))) &&& (255 : Int32)), iv (((128 : Int32) ||| (cd &&& (63 : Int32))) &&& (255 : Int32))] [(.int (4 : Int32))]))
        refine Ends.go (fun _ => XS.iconst X8.here hx rfl (hb hby at_383)) ?_
        show Ends p.tables e below G (T8.setTop (mkF m 384 #[iv vc, iv va, iv vf, iv cd, iv atv, iv f8, rv b1, iv (4 : Int32), iv (4 : Int32), iv (((240 : Int32) ||| (cd >>> ((18 : Int32) &&& 31))) &&& (255 : Int32)), iv (((128 : Int32) ||| ((cd >>> ((12 : Int32) &&& 31)) &&& (63 : Int32))) &&& (255 : Int32)), iv (((128 : Int32) ||| ((cd >>> ((6 : Int32) &&& 31)) &&& (63 : Int32))) &&& (255 : Int32)), iv (((128 : Int32) ||| (cd &&& (63 : Int32))) &&& (255 : Int32))] [(.int (3 : Int32)), (.int (4 : Int32))]))
        refine Ends.go (fun _ => XS.icmpYes X8.here hx rfl (pc0 := 384) (pc' := 456) rfl (hb hby at_384) rfl (feq (by decide : ¬ ((4 : Int32) = (3 : Int32)))).2 (by decide) (by decide)) ?_
        show Ends p.tables e below G (T8.setTop (mkF m 456 #[iv vc, iv va, iv vf, iv cd, iv atv, iv f8, rv b1, iv (4 : Int32), iv (4 : Int32), iv (((240 : Int32) ||| (cd >>> ((18 : Int32) &&& 31))) &&& (255 : Int32)), iv (((128 : Int32) ||| ((cd >>> ((12 : Int32) &&& 31)) &&& (63 : Int32))) &&& (255 : Int32)), iv (((128 : Int32) ||| ((cd >>> ((6 : Int32) &&& 31)) &&& (63 : Int32))) &&& (255 : Int32)), iv (((128 : Int32) ||| (cd &&& (63 : Int32))) &&& (255 : Int32))] []))
        refine Ends.go (fun _ => XS.iload X8.here hx rfl (hb hby at_456) rfl) ?_
        show Ends p.tables e below G (T8.setTop (mkF m 458 #[iv vc, iv va, iv vf, iv cd, iv atv, iv f8, rv b1, iv (4 : Int32), iv (4 : Int32), iv (((240 : Int32) ||| (cd >>> ((18 : Int32) &&& 31))) &&& (255 : Int32)), iv (((128 : Int32) ||| ((cd >>> ((12 : Int32) &&& 31)) &&& (63 : Int32))) &&& (255 : Int32)), iv (((128 : Int32) ||| ((cd >>> ((6 : Int32) &&& 31)) &&& (63 : Int32))) &&& (255 : Int32)), iv (((128 : Int32) ||| (cd &&& (63 : Int32))) &&& (255 : Int32))] [(.int (((240 : Int32) ||| (cd >>> ((18 : Int32) &&& 31))) &&& (255 : Int32)))]))
        refine Ends.go (fun _ => XS.sipush X8.here hx rfl (hb hby at_458)) ?_
        show Ends p.tables e below G (T8.setTop (mkF m 461 #[iv vc, iv va, iv vf, iv cd, iv atv, iv f8, rv b1, iv (4 : Int32), iv (4 : Int32), iv (((240 : Int32) ||| (cd >>> ((18 : Int32) &&& 31))) &&& (255 : Int32)), iv (((128 : Int32) ||| ((cd >>> ((12 : Int32) &&& 31)) &&& (63 : Int32))) &&& (255 : Int32)), iv (((128 : Int32) ||| ((cd >>> ((6 : Int32) &&& 31)) &&& (63 : Int32))) &&& (255 : Int32)), iv (((128 : Int32) ||| (cd &&& (63 : Int32))) &&& (255 : Int32))] [(.int (248 : Int32)), (.int (((240 : Int32) ||| (cd >>> ((18 : Int32) &&& 31))) &&& (255 : Int32)))]))
        refine Ends.go (fun _ => XS.iand X8.here hx rfl (hb hby at_461) rfl) ?_
        show Ends p.tables e below G (T8.setTop (mkF m 462 #[iv vc, iv va, iv vf, iv cd, iv atv, iv f8, rv b1, iv (4 : Int32), iv (4 : Int32), iv (((240 : Int32) ||| (cd >>> ((18 : Int32) &&& 31))) &&& (255 : Int32)), iv (((128 : Int32) ||| ((cd >>> ((12 : Int32) &&& 31)) &&& (63 : Int32))) &&& (255 : Int32)), iv (((128 : Int32) ||| ((cd >>> ((6 : Int32) &&& 31)) &&& (63 : Int32))) &&& (255 : Int32)), iv (((128 : Int32) ||| (cd &&& (63 : Int32))) &&& (255 : Int32))] [(.int ((((240 : Int32) ||| (cd >>> ((18 : Int32) &&& 31))) &&& (255 : Int32)) &&& (248 : Int32)))]))
        refine Ends.go (fun _ => XS.sipush X8.here hx rfl (hb hby at_462)) ?_
        show Ends p.tables e below G (T8.setTop (mkF m 465 #[iv vc, iv va, iv vf, iv cd, iv atv, iv f8, rv b1, iv (4 : Int32), iv (4 : Int32), iv (((240 : Int32) ||| (cd >>> ((18 : Int32) &&& 31))) &&& (255 : Int32)), iv (((128 : Int32) ||| ((cd >>> ((12 : Int32) &&& 31)) &&& (63 : Int32))) &&& (255 : Int32)), iv (((128 : Int32) ||| ((cd >>> ((6 : Int32) &&& 31)) &&& (63 : Int32))) &&& (255 : Int32)), iv (((128 : Int32) ||| (cd &&& (63 : Int32))) &&& (255 : Int32))] [(.int (240 : Int32)), (.int ((((240 : Int32) ||| (cd >>> ((18 : Int32) &&& 31))) &&& (255 : Int32)) &&& (248 : Int32)))]))
        refine Ends.go (fun _ => XS.icmpNo X8.here hx rfl (hb hby at_465) rfl (teq (own_c4_0 hcd (by omega) : ((((240 : Int32) ||| (cd >>> ((18 : Int32) &&& 31))) &&& (255 : Int32)) &&& (248 : Int32)) = (240 : Int32))).2) ?_
        show Ends p.tables e below G (T8.setTop (mkF m 468 #[iv vc, iv va, iv vf, iv cd, iv atv, iv f8, rv b1, iv (4 : Int32), iv (4 : Int32), iv (((240 : Int32) ||| (cd >>> ((18 : Int32) &&& 31))) &&& (255 : Int32)), iv (((128 : Int32) ||| ((cd >>> ((12 : Int32) &&& 31)) &&& (63 : Int32))) &&& (255 : Int32)), iv (((128 : Int32) ||| ((cd >>> ((6 : Int32) &&& 31)) &&& (63 : Int32))) &&& (255 : Int32)), iv (((128 : Int32) ||| (cd &&& (63 : Int32))) &&& (255 : Int32))] []))
        refine Ends.go (fun _ => XS.iload X8.here hx rfl (hb hby at_468) rfl) ?_
        show Ends p.tables e below G (T8.setTop (mkF m 470 #[iv vc, iv va, iv vf, iv cd, iv atv, iv f8, rv b1, iv (4 : Int32), iv (4 : Int32), iv (((240 : Int32) ||| (cd >>> ((18 : Int32) &&& 31))) &&& (255 : Int32)), iv (((128 : Int32) ||| ((cd >>> ((12 : Int32) &&& 31)) &&& (63 : Int32))) &&& (255 : Int32)), iv (((128 : Int32) ||| ((cd >>> ((6 : Int32) &&& 31)) &&& (63 : Int32))) &&& (255 : Int32)), iv (((128 : Int32) ||| (cd &&& (63 : Int32))) &&& (255 : Int32))] [(.int (((128 : Int32) ||| ((cd >>> ((12 : Int32) &&& 31)) &&& (63 : Int32))) &&& (255 : Int32)))]))
        refine Ends.go (fun _ => XS.sipush X8.here hx rfl (hb hby at_470)) ?_
        show Ends p.tables e below G (T8.setTop (mkF m 473 #[iv vc, iv va, iv vf, iv cd, iv atv, iv f8, rv b1, iv (4 : Int32), iv (4 : Int32), iv (((240 : Int32) ||| (cd >>> ((18 : Int32) &&& 31))) &&& (255 : Int32)), iv (((128 : Int32) ||| ((cd >>> ((12 : Int32) &&& 31)) &&& (63 : Int32))) &&& (255 : Int32)), iv (((128 : Int32) ||| ((cd >>> ((6 : Int32) &&& 31)) &&& (63 : Int32))) &&& (255 : Int32)), iv (((128 : Int32) ||| (cd &&& (63 : Int32))) &&& (255 : Int32))] [(.int (192 : Int32)), (.int (((128 : Int32) ||| ((cd >>> ((12 : Int32) &&& 31)) &&& (63 : Int32))) &&& (255 : Int32)))]))
        refine Ends.go (fun _ => XS.iand X8.here hx rfl (hb hby at_473) rfl) ?_
        show Ends p.tables e below G (T8.setTop (mkF m 474 #[iv vc, iv va, iv vf, iv cd, iv atv, iv f8, rv b1, iv (4 : Int32), iv (4 : Int32), iv (((240 : Int32) ||| (cd >>> ((18 : Int32) &&& 31))) &&& (255 : Int32)), iv (((128 : Int32) ||| ((cd >>> ((12 : Int32) &&& 31)) &&& (63 : Int32))) &&& (255 : Int32)), iv (((128 : Int32) ||| ((cd >>> ((6 : Int32) &&& 31)) &&& (63 : Int32))) &&& (255 : Int32)), iv (((128 : Int32) ||| (cd &&& (63 : Int32))) &&& (255 : Int32))] [(.int ((((128 : Int32) ||| ((cd >>> ((12 : Int32) &&& 31)) &&& (63 : Int32))) &&& (255 : Int32)) &&& (192 : Int32)))]))
        refine Ends.go (fun _ => XS.sipush X8.here hx rfl (hb hby at_474)) ?_
        show Ends p.tables e below G (T8.setTop (mkF m 477 #[iv vc, iv va, iv vf, iv cd, iv atv, iv f8, rv b1, iv (4 : Int32), iv (4 : Int32), iv (((240 : Int32) ||| (cd >>> ((18 : Int32) &&& 31))) &&& (255 : Int32)), iv (((128 : Int32) ||| ((cd >>> ((12 : Int32) &&& 31)) &&& (63 : Int32))) &&& (255 : Int32)), iv (((128 : Int32) ||| ((cd >>> ((6 : Int32) &&& 31)) &&& (63 : Int32))) &&& (255 : Int32)), iv (((128 : Int32) ||| (cd &&& (63 : Int32))) &&& (255 : Int32))] [(.int (128 : Int32)), (.int ((((128 : Int32) ||| ((cd >>> ((12 : Int32) &&& 31)) &&& (63 : Int32))) &&& (255 : Int32)) &&& (192 : Int32)))]))
        refine Ends.go (fun _ => XS.icmpNo X8.here hx rfl (hb hby at_477) rfl (teq (own_c4_1 hcd (by omega) : ((((128 : Int32) ||| ((cd >>> ((12 : Int32) &&& 31)) &&& (63 : Int32))) &&& (255 : Int32)) &&& (192 : Int32)) = (128 : Int32))).2) ?_
        show Ends p.tables e below G (T8.setTop (mkF m 480 #[iv vc, iv va, iv vf, iv cd, iv atv, iv f8, rv b1, iv (4 : Int32), iv (4 : Int32), iv (((240 : Int32) ||| (cd >>> ((18 : Int32) &&& 31))) &&& (255 : Int32)), iv (((128 : Int32) ||| ((cd >>> ((12 : Int32) &&& 31)) &&& (63 : Int32))) &&& (255 : Int32)), iv (((128 : Int32) ||| ((cd >>> ((6 : Int32) &&& 31)) &&& (63 : Int32))) &&& (255 : Int32)), iv (((128 : Int32) ||| (cd &&& (63 : Int32))) &&& (255 : Int32))] []))
        refine Ends.go (fun _ => XS.iload X8.here hx rfl (hb hby at_480) rfl) ?_
        show Ends p.tables e below G (T8.setTop (mkF m 482 #[iv vc, iv va, iv vf, iv cd, iv atv, iv f8, rv b1, iv (4 : Int32), iv (4 : Int32), iv (((240 : Int32) ||| (cd >>> ((18 : Int32) &&& 31))) &&& (255 : Int32)), iv (((128 : Int32) ||| ((cd >>> ((12 : Int32) &&& 31)) &&& (63 : Int32))) &&& (255 : Int32)), iv (((128 : Int32) ||| ((cd >>> ((6 : Int32) &&& 31)) &&& (63 : Int32))) &&& (255 : Int32)), iv (((128 : Int32) ||| (cd &&& (63 : Int32))) &&& (255 : Int32))] [(.int (((128 : Int32) ||| ((cd >>> ((6 : Int32) &&& 31)) &&& (63 : Int32))) &&& (255 : Int32)))]))
        refine Ends.go (fun _ => XS.sipush X8.here hx rfl (hb hby at_482)) ?_
        show Ends p.tables e below G (T8.setTop (mkF m 485 #[iv vc, iv va, iv vf, iv cd, iv atv, iv f8, rv b1, iv (4 : Int32), iv (4 : Int32), iv (((240 : Int32) ||| (cd >>> ((18 : Int32) &&& 31))) &&& (255 : Int32)), iv (((128 : Int32) ||| ((cd >>> ((12 : Int32) &&& 31)) &&& (63 : Int32))) &&& (255 : Int32)), iv (((128 : Int32) ||| ((cd >>> ((6 : Int32) &&& 31)) &&& (63 : Int32))) &&& (255 : Int32)), iv (((128 : Int32) ||| (cd &&& (63 : Int32))) &&& (255 : Int32))] [(.int (192 : Int32)), (.int (((128 : Int32) ||| ((cd >>> ((6 : Int32) &&& 31)) &&& (63 : Int32))) &&& (255 : Int32)))]))
        refine Ends.go (fun _ => XS.iand X8.here hx rfl (hb hby at_485) rfl) ?_
        show Ends p.tables e below G (T8.setTop (mkF m 486 #[iv vc, iv va, iv vf, iv cd, iv atv, iv f8, rv b1, iv (4 : Int32), iv (4 : Int32), iv (((240 : Int32) ||| (cd >>> ((18 : Int32) &&& 31))) &&& (255 : Int32)), iv (((128 : Int32) ||| ((cd >>> ((12 : Int32) &&& 31)) &&& (63 : Int32))) &&& (255 : Int32)), iv (((128 : Int32) ||| ((cd >>> ((6 : Int32) &&& 31)) &&& (63 : Int32))) &&& (255 : Int32)), iv (((128 : Int32) ||| (cd &&& (63 : Int32))) &&& (255 : Int32))] [(.int ((((128 : Int32) ||| ((cd >>> ((6 : Int32) &&& 31)) &&& (63 : Int32))) &&& (255 : Int32)) &&& (192 : Int32)))]))
        refine Ends.go (fun _ => XS.sipush X8.here hx rfl (hb hby at_486)) ?_
        show Ends p.tables e below G (T8.setTop (mkF m 489 #[iv vc, iv va, iv vf, iv cd, iv atv, iv f8, rv b1, iv (4 : Int32), iv (4 : Int32), iv (((240 : Int32) ||| (cd >>> ((18 : Int32) &&& 31))) &&& (255 : Int32)), iv (((128 : Int32) ||| ((cd >>> ((12 : Int32) &&& 31)) &&& (63 : Int32))) &&& (255 : Int32)), iv (((128 : Int32) ||| ((cd >>> ((6 : Int32) &&& 31)) &&& (63 : Int32))) &&& (255 : Int32)), iv (((128 : Int32) ||| (cd &&& (63 : Int32))) &&& (255 : Int32))] [(.int (128 : Int32)), (.int ((((128 : Int32) ||| ((cd >>> ((6 : Int32) &&& 31)) &&& (63 : Int32))) &&& (255 : Int32)) &&& (192 : Int32)))]))
        refine Ends.go (fun _ => XS.icmpNo X8.here hx rfl (hb hby at_489) rfl (teq (own_c4_2 hcd (by omega) : ((((128 : Int32) ||| ((cd >>> ((6 : Int32) &&& 31)) &&& (63 : Int32))) &&& (255 : Int32)) &&& (192 : Int32)) = (128 : Int32))).2) ?_
        show Ends p.tables e below G (T8.setTop (mkF m 492 #[iv vc, iv va, iv vf, iv cd, iv atv, iv f8, rv b1, iv (4 : Int32), iv (4 : Int32), iv (((240 : Int32) ||| (cd >>> ((18 : Int32) &&& 31))) &&& (255 : Int32)), iv (((128 : Int32) ||| ((cd >>> ((12 : Int32) &&& 31)) &&& (63 : Int32))) &&& (255 : Int32)), iv (((128 : Int32) ||| ((cd >>> ((6 : Int32) &&& 31)) &&& (63 : Int32))) &&& (255 : Int32)), iv (((128 : Int32) ||| (cd &&& (63 : Int32))) &&& (255 : Int32))] []))
        refine Ends.go (fun _ => XS.iload X8.here hx rfl (hb hby at_492) rfl) ?_
        show Ends p.tables e below G (T8.setTop (mkF m 494 #[iv vc, iv va, iv vf, iv cd, iv atv, iv f8, rv b1, iv (4 : Int32), iv (4 : Int32), iv (((240 : Int32) ||| (cd >>> ((18 : Int32) &&& 31))) &&& (255 : Int32)), iv (((128 : Int32) ||| ((cd >>> ((12 : Int32) &&& 31)) &&& (63 : Int32))) &&& (255 : Int32)), iv (((128 : Int32) ||| ((cd >>> ((6 : Int32) &&& 31)) &&& (63 : Int32))) &&& (255 : Int32)), iv (((128 : Int32) ||| (cd &&& (63 : Int32))) &&& (255 : Int32))] [(.int (((128 : Int32) ||| (cd &&& (63 : Int32))) &&& (255 : Int32)))]))
        refine Ends.go (fun _ => XS.sipush X8.here hx rfl (hb hby at_494)) ?_
        show Ends p.tables e below G (T8.setTop (mkF m 497 #[iv vc, iv va, iv vf, iv cd, iv atv, iv f8, rv b1, iv (4 : Int32), iv (4 : Int32), iv (((240 : Int32) ||| (cd >>> ((18 : Int32) &&& 31))) &&& (255 : Int32)), iv (((128 : Int32) ||| ((cd >>> ((12 : Int32) &&& 31)) &&& (63 : Int32))) &&& (255 : Int32)), iv (((128 : Int32) ||| ((cd >>> ((6 : Int32) &&& 31)) &&& (63 : Int32))) &&& (255 : Int32)), iv (((128 : Int32) ||| (cd &&& (63 : Int32))) &&& (255 : Int32))] [(.int (192 : Int32)), (.int (((128 : Int32) ||| (cd &&& (63 : Int32))) &&& (255 : Int32)))]))
        refine Ends.go (fun _ => XS.iand X8.here hx rfl (hb hby at_497) rfl) ?_
        show Ends p.tables e below G (T8.setTop (mkF m 498 #[iv vc, iv va, iv vf, iv cd, iv atv, iv f8, rv b1, iv (4 : Int32), iv (4 : Int32), iv (((240 : Int32) ||| (cd >>> ((18 : Int32) &&& 31))) &&& (255 : Int32)), iv (((128 : Int32) ||| ((cd >>> ((12 : Int32) &&& 31)) &&& (63 : Int32))) &&& (255 : Int32)), iv (((128 : Int32) ||| ((cd >>> ((6 : Int32) &&& 31)) &&& (63 : Int32))) &&& (255 : Int32)), iv (((128 : Int32) ||| (cd &&& (63 : Int32))) &&& (255 : Int32))] [(.int ((((128 : Int32) ||| (cd &&& (63 : Int32))) &&& (255 : Int32)) &&& (192 : Int32)))]))
        refine Ends.go (fun _ => XS.sipush X8.here hx rfl (hb hby at_498)) ?_
        show Ends p.tables e below G (T8.setTop (mkF m 501 #[iv vc, iv va, iv vf, iv cd, iv atv, iv f8, rv b1, iv (4 : Int32), iv (4 : Int32), iv (((240 : Int32) ||| (cd >>> ((18 : Int32) &&& 31))) &&& (255 : Int32)), iv (((128 : Int32) ||| ((cd >>> ((12 : Int32) &&& 31)) &&& (63 : Int32))) &&& (255 : Int32)), iv (((128 : Int32) ||| ((cd >>> ((6 : Int32) &&& 31)) &&& (63 : Int32))) &&& (255 : Int32)), iv (((128 : Int32) ||| (cd &&& (63 : Int32))) &&& (255 : Int32))] [(.int (128 : Int32)), (.int ((((128 : Int32) ||| (cd &&& (63 : Int32))) &&& (255 : Int32)) &&& (192 : Int32)))]))
        refine Ends.go (fun _ => XS.icmpNo X8.here hx rfl (hb hby at_501) rfl (teq (own_c4_3 hcd (by omega) : ((((128 : Int32) ||| (cd &&& (63 : Int32))) &&& (255 : Int32)) &&& (192 : Int32)) = (128 : Int32))).2) ?_
        show Ends p.tables e below G (T8.setTop (mkF m 504 #[iv vc, iv va, iv vf, iv cd, iv atv, iv f8, rv b1, iv (4 : Int32), iv (4 : Int32), iv (((240 : Int32) ||| (cd >>> ((18 : Int32) &&& 31))) &&& (255 : Int32)), iv (((128 : Int32) ||| ((cd >>> ((12 : Int32) &&& 31)) &&& (63 : Int32))) &&& (255 : Int32)), iv (((128 : Int32) ||| ((cd >>> ((6 : Int32) &&& 31)) &&& (63 : Int32))) &&& (255 : Int32)), iv (((128 : Int32) ||| (cd &&& (63 : Int32))) &&& (255 : Int32))] []))
        refine Ends.go (fun _ => XS.iload X8.here hx rfl (hb hby at_504) rfl) ?_
        show Ends p.tables e below G (T8.setTop (mkF m 506 #[iv vc, iv va, iv vf, iv cd, iv atv, iv f8, rv b1, iv (4 : Int32), iv (4 : Int32), iv (((240 : Int32) ||| (cd >>> ((18 : Int32) &&& 31))) &&& (255 : Int32)), iv (((128 : Int32) ||| ((cd >>> ((12 : Int32) &&& 31)) &&& (63 : Int32))) &&& (255 : Int32)), iv (((128 : Int32) ||| ((cd >>> ((6 : Int32) &&& 31)) &&& (63 : Int32))) &&& (255 : Int32)), iv (((128 : Int32) ||| (cd &&& (63 : Int32))) &&& (255 : Int32))] [(.int (((240 : Int32) ||| (cd >>> ((18 : Int32) &&& 31))) &&& (255 : Int32)))]))
        refine Ends.go (fun _ => XS.bipush X8.here hx rfl (hb hby at_506)) ?_
        show Ends p.tables e below G (T8.setTop (mkF m 508 #[iv vc, iv va, iv vf, iv cd, iv atv, iv f8, rv b1, iv (4 : Int32), iv (4 : Int32), iv (((240 : Int32) ||| (cd >>> ((18 : Int32) &&& 31))) &&& (255 : Int32)), iv (((128 : Int32) ||| ((cd >>> ((12 : Int32) &&& 31)) &&& (63 : Int32))) &&& (255 : Int32)), iv (((128 : Int32) ||| ((cd >>> ((6 : Int32) &&& 31)) &&& (63 : Int32))) &&& (255 : Int32)), iv (((128 : Int32) ||| (cd &&& (63 : Int32))) &&& (255 : Int32))] [(.int (7 : Int32)), (.int (((240 : Int32) ||| (cd >>> ((18 : Int32) &&& 31))) &&& (255 : Int32)))]))
        refine Ends.go (fun _ => XS.iand X8.here hx rfl (hb hby at_508) rfl) ?_
        show Ends p.tables e below G (T8.setTop (mkF m 509 #[iv vc, iv va, iv vf, iv cd, iv atv, iv f8, rv b1, iv (4 : Int32), iv (4 : Int32), iv (((240 : Int32) ||| (cd >>> ((18 : Int32) &&& 31))) &&& (255 : Int32)), iv (((128 : Int32) ||| ((cd >>> ((12 : Int32) &&& 31)) &&& (63 : Int32))) &&& (255 : Int32)), iv (((128 : Int32) ||| ((cd >>> ((6 : Int32) &&& 31)) &&& (63 : Int32))) &&& (255 : Int32)), iv (((128 : Int32) ||| (cd &&& (63 : Int32))) &&& (255 : Int32))] [(.int ((((240 : Int32) ||| (cd >>> ((18 : Int32) &&& 31))) &&& (255 : Int32)) &&& (7 : Int32)))]))
        refine Ends.go (fun _ => XS.bipush X8.here hx rfl (hb hby at_509)) ?_
        show Ends p.tables e below G (T8.setTop (mkF m 511 #[iv vc, iv va, iv vf, iv cd, iv atv, iv f8, rv b1, iv (4 : Int32), iv (4 : Int32), iv (((240 : Int32) ||| (cd >>> ((18 : Int32) &&& 31))) &&& (255 : Int32)), iv (((128 : Int32) ||| ((cd >>> ((12 : Int32) &&& 31)) &&& (63 : Int32))) &&& (255 : Int32)), iv (((128 : Int32) ||| ((cd >>> ((6 : Int32) &&& 31)) &&& (63 : Int32))) &&& (255 : Int32)), iv (((128 : Int32) ||| (cd &&& (63 : Int32))) &&& (255 : Int32))] [(.int (18 : Int32)), (.int ((((240 : Int32) ||| (cd >>> ((18 : Int32) &&& 31))) &&& (255 : Int32)) &&& (7 : Int32)))]))
        refine Ends.go (fun _ => XS.ishl X8.here hx rfl (hb hby at_511) rfl) ?_
        show Ends p.tables e below G (T8.setTop (mkF m 512 #[iv vc, iv va, iv vf, iv cd, iv atv, iv f8, rv b1, iv (4 : Int32), iv (4 : Int32), iv (((240 : Int32) ||| (cd >>> ((18 : Int32) &&& 31))) &&& (255 : Int32)), iv (((128 : Int32) ||| ((cd >>> ((12 : Int32) &&& 31)) &&& (63 : Int32))) &&& (255 : Int32)), iv (((128 : Int32) ||| ((cd >>> ((6 : Int32) &&& 31)) &&& (63 : Int32))) &&& (255 : Int32)), iv (((128 : Int32) ||| (cd &&& (63 : Int32))) &&& (255 : Int32))] [(.int (((((240 : Int32) ||| (cd >>> ((18 : Int32) &&& 31))) &&& (255 : Int32)) &&& (7 : Int32)) <<< ((18 : Int32) &&& 31)))]))
        refine Ends.go (fun _ => XS.iload X8.here hx rfl (hb hby at_512) rfl) ?_
        show Ends p.tables e below G (T8.setTop (mkF m 514 #[iv vc, iv va, iv vf, iv cd, iv atv, iv f8, rv b1, iv (4 : Int32), iv (4 : Int32), iv (((240 : Int32) ||| (cd >>> ((18 : Int32) &&& 31))) &&& (255 : Int32)), iv (((128 : Int32) ||| ((cd >>> ((12 : Int32) &&& 31)) &&& (63 : Int32))) &&& (255 : Int32)), iv (((128 : Int32) ||| ((cd >>> ((6 : Int32) &&& 31)) &&& (63 : Int32))) &&& (255 : Int32)), iv (((128 : Int32) ||| (cd &&& (63 : Int32))) &&& (255 : Int32))] [(.int (((128 : Int32) ||| ((cd >>> ((12 : Int32) &&& 31)) &&& (63 : Int32))) &&& (255 : Int32))), (.int (((((240 : Int32) ||| (cd >>> ((18 : Int32) &&& 31))) &&& (255 : Int32)) &&& (7 : Int32)) <<< ((18 : Int32) &&& 31)))]))
        refine Ends.go (fun _ => XS.bipush X8.here hx rfl (hb hby at_514)) ?_
        show Ends p.tables e below G (T8.setTop (mkF m 516 #[iv vc, iv va, iv vf, iv cd, iv atv, iv f8, rv b1, iv (4 : Int32), iv (4 : Int32), iv (((240 : Int32) ||| (cd >>> ((18 : Int32) &&& 31))) &&& (255 : Int32)), iv (((128 : Int32) ||| ((cd >>> ((12 : Int32) &&& 31)) &&& (63 : Int32))) &&& (255 : Int32)), iv (((128 : Int32) ||| ((cd >>> ((6 : Int32) &&& 31)) &&& (63 : Int32))) &&& (255 : Int32)), iv (((128 : Int32) ||| (cd &&& (63 : Int32))) &&& (255 : Int32))] [(.int (63 : Int32)), (.int (((128 : Int32) ||| ((cd >>> ((12 : Int32) &&& 31)) &&& (63 : Int32))) &&& (255 : Int32))), (.int (((((240 : Int32) ||| (cd >>> ((18 : Int32) &&& 31))) &&& (255 : Int32)) &&& (7 : Int32)) <<< ((18 : Int32) &&& 31)))]))
        refine Ends.go (fun _ => XS.iand X8.here hx rfl (hb hby at_516) rfl) ?_
        show Ends p.tables e below G (T8.setTop (mkF m 517 #[iv vc, iv va, iv vf, iv cd, iv atv, iv f8, rv b1, iv (4 : Int32), iv (4 : Int32), iv (((240 : Int32) ||| (cd >>> ((18 : Int32) &&& 31))) &&& (255 : Int32)), iv (((128 : Int32) ||| ((cd >>> ((12 : Int32) &&& 31)) &&& (63 : Int32))) &&& (255 : Int32)), iv (((128 : Int32) ||| ((cd >>> ((6 : Int32) &&& 31)) &&& (63 : Int32))) &&& (255 : Int32)), iv (((128 : Int32) ||| (cd &&& (63 : Int32))) &&& (255 : Int32))] [(.int ((((128 : Int32) ||| ((cd >>> ((12 : Int32) &&& 31)) &&& (63 : Int32))) &&& (255 : Int32)) &&& (63 : Int32))), (.int (((((240 : Int32) ||| (cd >>> ((18 : Int32) &&& 31))) &&& (255 : Int32)) &&& (7 : Int32)) <<< ((18 : Int32) &&& 31)))]))
        refine Ends.go (fun _ => XS.bipush X8.here hx rfl (hb hby at_517)) ?_
        show Ends p.tables e below G (T8.setTop (mkF m 519 #[iv vc, iv va, iv vf, iv cd, iv atv, iv f8, rv b1, iv (4 : Int32), iv (4 : Int32), iv (((240 : Int32) ||| (cd >>> ((18 : Int32) &&& 31))) &&& (255 : Int32)), iv (((128 : Int32) ||| ((cd >>> ((12 : Int32) &&& 31)) &&& (63 : Int32))) &&& (255 : Int32)), iv (((128 : Int32) ||| ((cd >>> ((6 : Int32) &&& 31)) &&& (63 : Int32))) &&& (255 : Int32)), iv (((128 : Int32) ||| (cd &&& (63 : Int32))) &&& (255 : Int32))] [(.int (12 : Int32)), (.int ((((128 : Int32) ||| ((cd >>> ((12 : Int32) &&& 31)) &&& (63 : Int32))) &&& (255 : Int32)) &&& (63 : Int32))), (.int (((((240 : Int32) ||| (cd >>> ((18 : Int32) &&& 31))) &&& (255 : Int32)) &&& (7 : Int32)) <<< ((18 : Int32) &&& 31)))]))
        refine Ends.go (fun _ => XS.ishl X8.here hx rfl (hb hby at_519) rfl) ?_
        show Ends p.tables e below G (T8.setTop (mkF m 520 #[iv vc, iv va, iv vf, iv cd, iv atv, iv f8, rv b1, iv (4 : Int32), iv (4 : Int32), iv (((240 : Int32) ||| (cd >>> ((18 : Int32) &&& 31))) &&& (255 : Int32)), iv (((128 : Int32) ||| ((cd >>> ((12 : Int32) &&& 31)) &&& (63 : Int32))) &&& (255 : Int32)), iv (((128 : Int32) ||| ((cd >>> ((6 : Int32) &&& 31)) &&& (63 : Int32))) &&& (255 : Int32)), iv (((128 : Int32) ||| (cd &&& (63 : Int32))) &&& (255 : Int32))] [(.int (((((128 : Int32) ||| ((cd >>> ((12 : Int32) &&& 31)) &&& (63 : Int32))) &&& (255 : Int32)) &&& (63 : Int32)) <<< ((12 : Int32) &&& 31))), (.int (((((240 : Int32) ||| (cd >>> ((18 : Int32) &&& 31))) &&& (255 : Int32)) &&& (7 : Int32)) <<< ((18 : Int32) &&& 31)))]))
        refine Ends.go (fun _ => XS.ior X8.here hx rfl (hb hby at_520) rfl) ?_
        show Ends p.tables e below G (T8.setTop (mkF m 521 #[iv vc, iv va, iv vf, iv cd, iv atv, iv f8, rv b1, iv (4 : Int32), iv (4 : Int32), iv (((240 : Int32) ||| (cd >>> ((18 : Int32) &&& 31))) &&& (255 : Int32)), iv (((128 : Int32) ||| ((cd >>> ((12 : Int32) &&& 31)) &&& (63 : Int32))) &&& (255 : Int32)), iv (((128 : Int32) ||| ((cd >>> ((6 : Int32) &&& 31)) &&& (63 : Int32))) &&& (255 : Int32)), iv (((128 : Int32) ||| (cd &&& (63 : Int32))) &&& (255 : Int32))] [(.int ((((((240 : Int32) ||| (cd >>> ((18 : Int32) &&& 31))) &&& (255 : Int32)) &&& (7 : Int32)) <<< ((18 : Int32) &&& 31)) ||| (((((128 : Int32) ||| ((cd >>> ((12 : Int32) &&& 31)) &&& (63 : Int32))) &&& (255 : Int32)) &&& (63 : Int32)) <<< ((12 : Int32) &&& 31))))]))
        refine Ends.go (fun _ => XS.iload X8.here hx rfl (hb hby at_521) rfl) ?_
        show Ends p.tables e below G (T8.setTop (mkF m 523 #[iv vc, iv va, iv vf, iv cd, iv atv, iv f8, rv b1, iv (4 : Int32), iv (4 : Int32), iv (((240 : Int32) ||| (cd >>> ((18 : Int32) &&& 31))) &&& (255 : Int32)), iv (((128 : Int32) ||| ((cd >>> ((12 : Int32) &&& 31)) &&& (63 : Int32))) &&& (255 : Int32)), iv (((128 : Int32) ||| ((cd >>> ((6 : Int32) &&& 31)) &&& (63 : Int32))) &&& (255 : Int32)), iv (((128 : Int32) ||| (cd &&& (63 : Int32))) &&& (255 : Int32))] [(.int (((128 : Int32) ||| ((cd >>> ((6 : Int32) &&& 31)) &&& (63 : Int32))) &&& (255 : Int32))), (.int ((((((240 : Int32) ||| (cd >>> ((18 : Int32) &&& 31))) &&& (255 : Int32)) &&& (7 : Int32)) <<< ((18 : Int32) &&& 31)) ||| (((((128 : Int32) ||| ((cd >>> ((12 : Int32) &&& 31)) &&& (63 : Int32))) &&& (255 : Int32)) &&& (63 : Int32)) <<< ((12 : Int32) &&& 31))))]))
        refine Ends.go (fun _ => XS.bipush X8.here hx rfl (hb hby at_523)) ?_
        show Ends p.tables e below G (T8.setTop (mkF m 525 #[iv vc, iv va, iv vf, iv cd, iv atv, iv f8, rv b1, iv (4 : Int32), iv (4 : Int32), iv (((240 : Int32) ||| (cd >>> ((18 : Int32) &&& 31))) &&& (255 : Int32)), iv (((128 : Int32) ||| ((cd >>> ((12 : Int32) &&& 31)) &&& (63 : Int32))) &&& (255 : Int32)), iv (((128 : Int32) ||| ((cd >>> ((6 : Int32) &&& 31)) &&& (63 : Int32))) &&& (255 : Int32)), iv (((128 : Int32) ||| (cd &&& (63 : Int32))) &&& (255 : Int32))] [(.int (63 : Int32)), (.int (((128 : Int32) ||| ((cd >>> ((6 : Int32) &&& 31)) &&& (63 : Int32))) &&& (255 : Int32))), (.int ((((((240 : Int32) ||| (cd >>> ((18 : Int32) &&& 31))) &&& (255 : Int32)) &&& (7 : Int32)) <<< ((18 : Int32) &&& 31)) ||| (((((128 : Int32) ||| ((cd >>> ((12 : Int32) &&& 31)) &&& (63 : Int32))) &&& (255 : Int32)) &&& (63 : Int32)) <<< ((12 : Int32) &&& 31))))]))
        refine Ends.go (fun _ => XS.iand X8.here hx rfl (hb hby at_525) rfl) ?_
        show Ends p.tables e below G (T8.setTop (mkF m 526 #[iv vc, iv va, iv vf, iv cd, iv atv, iv f8, rv b1, iv (4 : Int32), iv (4 : Int32), iv (((240 : Int32) ||| (cd >>> ((18 : Int32) &&& 31))) &&& (255 : Int32)), iv (((128 : Int32) ||| ((cd >>> ((12 : Int32) &&& 31)) &&& (63 : Int32))) &&& (255 : Int32)), iv (((128 : Int32) ||| ((cd >>> ((6 : Int32) &&& 31)) &&& (63 : Int32))) &&& (255 : Int32)), iv (((128 : Int32) ||| (cd &&& (63 : Int32))) &&& (255 : Int32))] [(.int ((((128 : Int32) ||| ((cd >>> ((6 : Int32) &&& 31)) &&& (63 : Int32))) &&& (255 : Int32)) &&& (63 : Int32))), (.int ((((((240 : Int32) ||| (cd >>> ((18 : Int32) &&& 31))) &&& (255 : Int32)) &&& (7 : Int32)) <<< ((18 : Int32) &&& 31)) ||| (((((128 : Int32) ||| ((cd >>> ((12 : Int32) &&& 31)) &&& (63 : Int32))) &&& (255 : Int32)) &&& (63 : Int32)) <<< ((12 : Int32) &&& 31))))]))
        refine Ends.go (fun _ => XS.bipush X8.here hx rfl (hb hby at_526)) ?_
        show Ends p.tables e below G (T8.setTop (mkF m 528 #[iv vc, iv va, iv vf, iv cd, iv atv, iv f8, rv b1, iv (4 : Int32), iv (4 : Int32), iv (((240 : Int32) ||| (cd >>> ((18 : Int32) &&& 31))) &&& (255 : Int32)), iv (((128 : Int32) ||| ((cd >>> ((12 : Int32) &&& 31)) &&& (63 : Int32))) &&& (255 : Int32)), iv (((128 : Int32) ||| ((cd >>> ((6 : Int32) &&& 31)) &&& (63 : Int32))) &&& (255 : Int32)), iv (((128 : Int32) ||| (cd &&& (63 : Int32))) &&& (255 : Int32))] [(.int (6 : Int32)), (.int ((((128 : Int32) ||| ((cd >>> ((6 : Int32) &&& 31)) &&& (63 : Int32))) &&& (255 : Int32)) &&& (63 : Int32))), (.int ((((((240 : Int32) ||| (cd >>> ((18 : Int32) &&& 31))) &&& (255 : Int32)) &&& (7 : Int32)) <<< ((18 : Int32) &&& 31)) ||| (((((128 : Int32) ||| ((cd >>> ((12 : Int32) &&& 31)) &&& (63 : Int32))) &&& (255 : Int32)) &&& (63 : Int32)) <<< ((12 : Int32) &&& 31))))]))
        refine Ends.go (fun _ => XS.ishl X8.here hx rfl (hb hby at_528) rfl) ?_
        show Ends p.tables e below G (T8.setTop (mkF m 529 #[iv vc, iv va, iv vf, iv cd, iv atv, iv f8, rv b1, iv (4 : Int32), iv (4 : Int32), iv (((240 : Int32) ||| (cd >>> ((18 : Int32) &&& 31))) &&& (255 : Int32)), iv (((128 : Int32) ||| ((cd >>> ((12 : Int32) &&& 31)) &&& (63 : Int32))) &&& (255 : Int32)), iv (((128 : Int32) ||| ((cd >>> ((6 : Int32) &&& 31)) &&& (63 : Int32))) &&& (255 : Int32)), iv (((128 : Int32) ||| (cd &&& (63 : Int32))) &&& (255 : Int32))] [(.int (((((128 : Int32) ||| ((cd >>> ((6 : Int32) &&& 31)) &&& (63 : Int32))) &&& (255 : Int32)) &&& (63 : Int32)) <<< ((6 : Int32) &&& 31))), (.int ((((((240 : Int32) ||| (cd >>> ((18 : Int32) &&& 31))) &&& (255 : Int32)) &&& (7 : Int32)) <<< ((18 : Int32) &&& 31)) ||| (((((128 : Int32) ||| ((cd >>> ((12 : Int32) &&& 31)) &&& (63 : Int32))) &&& (255 : Int32)) &&& (63 : Int32)) <<< ((12 : Int32) &&& 31))))]))
        refine Ends.go (fun _ => XS.ior X8.here hx rfl (hb hby at_529) rfl) ?_
        show Ends p.tables e below G (T8.setTop (mkF m 530 #[iv vc, iv va, iv vf, iv cd, iv atv, iv f8, rv b1, iv (4 : Int32), iv (4 : Int32), iv (((240 : Int32) ||| (cd >>> ((18 : Int32) &&& 31))) &&& (255 : Int32)), iv (((128 : Int32) ||| ((cd >>> ((12 : Int32) &&& 31)) &&& (63 : Int32))) &&& (255 : Int32)), iv (((128 : Int32) ||| ((cd >>> ((6 : Int32) &&& 31)) &&& (63 : Int32))) &&& (255 : Int32)), iv (((128 : Int32) ||| (cd &&& (63 : Int32))) &&& (255 : Int32))] [(.int (((((((240 : Int32) ||| (cd >>> ((18 : Int32) &&& 31))) &&& (255 : Int32)) &&& (7 : Int32)) <<< ((18 : Int32) &&& 31)) ||| (((((128 : Int32) ||| ((cd >>> ((12 : Int32) &&& 31)) &&& (63 : Int32))) &&& (255 : Int32)) &&& (63 : Int32)) <<< ((12 : Int32) &&& 31))) ||| (((((128 : Int32) ||| ((cd >>> ((6 : Int32) &&& 31)) &&& (63 : Int32))) &&& (255 : Int32)) &&& (63 : Int32)) <<< ((6 : Int32) &&& 31))))]))
        refine Ends.go (fun _ => XS.iload X8.here hx rfl (hb hby at_530) rfl) ?_
        show Ends p.tables e below G (T8.setTop (mkF m 532 #[iv vc, iv va, iv vf, iv cd, iv atv, iv f8, rv b1, iv (4 : Int32), iv (4 : Int32), iv (((240 : Int32) ||| (cd >>> ((18 : Int32) &&& 31))) &&& (255 : Int32)), iv (((128 : Int32) ||| ((cd >>> ((12 : Int32) &&& 31)) &&& (63 : Int32))) &&& (255 : Int32)), iv (((128 : Int32) ||| ((cd >>> ((6 : Int32) &&& 31)) &&& (63 : Int32))) &&& (255 : Int32)), iv (((128 : Int32) ||| (cd &&& (63 : Int32))) &&& (255 : Int32))] [(.int (((128 : Int32) ||| (cd &&& (63 : Int32))) &&& (255 : Int32))), (.int (((((((240 : Int32) ||| (cd >>> ((18 : Int32) &&& 31))) &&& (255 : Int32)) &&& (7 : Int32)) <<< ((18 : Int32) &&& 31)) ||| (((((128 : Int32) ||| ((cd >>> ((12 : Int32) &&& 31)) &&& (63 : Int32))) &&& (255 : Int32)) &&& (63 : Int32)) <<< ((12 : Int32) &&& 31))) ||| (((((128 : Int32) ||| ((cd >>> ((6 : Int32) &&& 31)) &&& (63 : Int32))) &&& (255 : Int32)) &&& (63 : Int32)) <<< ((6 : Int32) &&& 31))))]))
        refine Ends.go (fun _ => XS.bipush X8.here hx rfl (hb hby at_532)) ?_
        show Ends p.tables e below G (T8.setTop (mkF m 534 #[iv vc, iv va, iv vf, iv cd, iv atv, iv f8, rv b1, iv (4 : Int32), iv (4 : Int32), iv (((240 : Int32) ||| (cd >>> ((18 : Int32) &&& 31))) &&& (255 : Int32)), iv (((128 : Int32) ||| ((cd >>> ((12 : Int32) &&& 31)) &&& (63 : Int32))) &&& (255 : Int32)), iv (((128 : Int32) ||| ((cd >>> ((6 : Int32) &&& 31)) &&& (63 : Int32))) &&& (255 : Int32)), iv (((128 : Int32) ||| (cd &&& (63 : Int32))) &&& (255 : Int32))] [(.int (63 : Int32)), (.int (((128 : Int32) ||| (cd &&& (63 : Int32))) &&& (255 : Int32))), (.int (((((((240 : Int32) ||| (cd >>> ((18 : Int32) &&& 31))) &&& (255 : Int32)) &&& (7 : Int32)) <<< ((18 : Int32) &&& 31)) ||| (((((128 : Int32) ||| ((cd >>> ((12 : Int32) &&& 31)) &&& (63 : Int32))) &&& (255 : Int32)) &&& (63 : Int32)) <<< ((12 : Int32) &&& 31))) ||| (((((128 : Int32) ||| ((cd >>> ((6 : Int32) &&& 31)) &&& (63 : Int32))) &&& (255 : Int32)) &&& (63 : Int32)) <<< ((6 : Int32) &&& 31))))]))
        refine Ends.go (fun _ => XS.iand X8.here hx rfl (hb hby at_534) rfl) ?_
        show Ends p.tables e below G (T8.setTop (mkF m 535 #[iv vc, iv va, iv vf, iv cd, iv atv, iv f8, rv b1, iv (4 : Int32), iv (4 : Int32), iv (((240 : Int32) ||| (cd >>> ((18 : Int32) &&& 31))) &&& (255 : Int32)), iv (((128 : Int32) ||| ((cd >>> ((12 : Int32) &&& 31)) &&& (63 : Int32))) &&& (255 : Int32)), iv (((128 : Int32) ||| ((cd >>> ((6 : Int32) &&& 31)) &&& (63 : Int32))) &&& (255 : Int32)), iv (((128 : Int32) ||| (cd &&& (63 : Int32))) &&& (255 : Int32))] [(.int ((((128 : Int32) ||| (cd &&& (63 : Int32))) &&& (255 : Int32)) &&& (63 : Int32))), (.int (((((((240 : Int32) ||| (cd >>> ((18 : Int32) &&& 31))) &&& (255 : Int32)) &&& (7 : Int32)) <<< ((18 : Int32) &&& 31)) ||| (((((128 : Int32) ||| ((cd >>> ((12 : Int32) &&& 31)) &&& (63 : Int32))) &&& (255 : Int32)) &&& (63 : Int32)) <<< ((12 : Int32) &&& 31))) ||| (((((128 : Int32) ||| ((cd >>> ((6 : Int32) &&& 31)) &&& (63 : Int32))) &&& (255 : Int32)) &&& (63 : Int32)) <<< ((6 : Int32) &&& 31))))]))
        refine Ends.go (fun _ => XS.ior X8.here hx rfl (hb hby at_535) rfl) ?_
        show Ends p.tables e below G (T8.setTop (mkF m 536 #[iv vc, iv va, iv vf, iv cd, iv atv, iv f8, rv b1, iv (4 : Int32), iv (4 : Int32), iv (((240 : Int32) ||| (cd >>> ((18 : Int32) &&& 31))) &&& (255 : Int32)), iv (((128 : Int32) ||| ((cd >>> ((12 : Int32) &&& 31)) &&& (63 : Int32))) &&& (255 : Int32)), iv (((128 : Int32) ||| ((cd >>> ((6 : Int32) &&& 31)) &&& (63 : Int32))) &&& (255 : Int32)), iv (((128 : Int32) ||| (cd &&& (63 : Int32))) &&& (255 : Int32))] [(.int ((((((((240 : Int32) ||| (cd >>> ((18 : Int32) &&& 31))) &&& (255 : Int32)) &&& (7 : Int32)) <<< ((18 : Int32) &&& 31)) ||| (((((128 : Int32) ||| ((cd >>> ((12 : Int32) &&& 31)) &&& (63 : Int32))) &&& (255 : Int32)) &&& (63 : Int32)) <<< ((12 : Int32) &&& 31))) ||| (((((128 : Int32) ||| ((cd >>> ((6 : Int32) &&& 31)) &&& (63 : Int32))) &&& (255 : Int32)) &&& (63 : Int32)) <<< ((6 : Int32) &&& 31))) ||| ((((128 : Int32) ||| (cd &&& (63 : Int32))) &&& (255 : Int32)) &&& (63 : Int32))))]))
        refine Ends.go (fun _ => XS.iloadN X8.here hx rfl (hb hby at_536) rfl) ?_
        show Ends p.tables e below G (T8.setTop (mkF m 537 #[iv vc, iv va, iv vf, iv cd, iv atv, iv f8, rv b1, iv (4 : Int32), iv (4 : Int32), iv (((240 : Int32) ||| (cd >>> ((18 : Int32) &&& 31))) &&& (255 : Int32)), iv (((128 : Int32) ||| ((cd >>> ((12 : Int32) &&& 31)) &&& (63 : Int32))) &&& (255 : Int32)), iv (((128 : Int32) ||| ((cd >>> ((6 : Int32) &&& 31)) &&& (63 : Int32))) &&& (255 : Int32)), iv (((128 : Int32) ||| (cd &&& (63 : Int32))) &&& (255 : Int32))] [(.int cd), (.int ((((((((240 : Int32) ||| (cd >>> ((18 : Int32) &&& 31))) &&& (255 : Int32)) &&& (7 : Int32)) <<< ((18 : Int32) &&& 31)) ||| (((((128 : Int32) ||| ((cd >>> ((12 : Int32) &&& 31)) &&& (63 : Int32))) &&& (255 : Int32)) &&& (63 : Int32)) <<< ((12 : Int32) &&& 31))) ||| (((((128 : Int32) ||| ((cd >>> ((6 : Int32) &&& 31)) &&& (63 : Int32))) &&& (255 : Int32)) &&& (63 : Int32)) <<< ((6 : Int32) &&& 31))) ||| ((((128 : Int32) ||| (cd &&& (63 : Int32))) &&& (255 : Int32)) &&& (63 : Int32))))]))
        refine Ends.go (fun _ => XS.icmpNo X8.here hx rfl (hb hby at_537) rfl (teq (own_c4_s hcd (by omega) : ((((((((240 : Int32) ||| (cd >>> ((18 : Int32) &&& 31))) &&& (255 : Int32)) &&& (7 : Int32)) <<< ((18 : Int32) &&& 31)) ||| (((((128 : Int32) ||| ((cd >>> ((12 : Int32) &&& 31)) &&& (63 : Int32))) &&& (255 : Int32)) &&& (63 : Int32)) <<< ((12 : Int32) &&& 31))) ||| (((((128 : Int32) ||| ((cd >>> ((6 : Int32) &&& 31)) &&& (63 : Int32))) &&& (255 : Int32)) &&& (63 : Int32)) <<< ((6 : Int32) &&& 31))) ||| ((((128 : Int32) ||| (cd &&& (63 : Int32))) &&& (255 : Int32)) &&& (63 : Int32))) = cd)).2) ?_
        show Ends p.tables e below G (T8.setTop (mkF m 540 #[iv vc, iv va, iv vf, iv cd, iv atv, iv f8, rv b1, iv (4 : Int32), iv (4 : Int32), iv (((240 : Int32) ||| (cd >>> ((18 : Int32) &&& 31))) &&& (255 : Int32)), iv (((128 : Int32) ||| ((cd >>> ((12 : Int32) &&& 31)) &&& (63 : Int32))) &&& (255 : Int32)), iv (((128 : Int32) ||| ((cd >>> ((6 : Int32) &&& 31)) &&& (63 : Int32))) &&& (255 : Int32)), iv (((128 : Int32) ||| (cd &&& (63 : Int32))) &&& (255 : Int32))] []))
        refine Ends.go (fun _ => XS.iconst X8.here hx rfl (hb hby at_540)) ?_
        show Ends p.tables e below G (T8.setTop (mkF m 541 #[iv vc, iv va, iv vf, iv cd, iv atv, iv f8, rv b1, iv (4 : Int32), iv (4 : Int32), iv (((240 : Int32) ||| (cd >>> ((18 : Int32) &&& 31))) &&& (255 : Int32)), iv (((128 : Int32) ||| ((cd >>> ((12 : Int32) &&& 31)) &&& (63 : Int32))) &&& (255 : Int32)), iv (((128 : Int32) ||| ((cd >>> ((6 : Int32) &&& 31)) &&& (63 : Int32))) &&& (255 : Int32)), iv (((128 : Int32) ||| (cd &&& (63 : Int32))) &&& (255 : Int32))] [(.int (1 : Int32))]))
        refine Ends.go (fun _ => XS.goto X8.here hx rfl (pc0 := 541) (pc' := 545) rfl (hb hby at_541) (by decide) (by decide)) ?_
        show Ends p.tables e below G (T8.setTop (mkF m 545 #[iv vc, iv va, iv vf, iv cd, iv atv, iv f8, rv b1, iv (4 : Int32), iv (4 : Int32), iv (((240 : Int32) ||| (cd >>> ((18 : Int32) &&& 31))) &&& (255 : Int32)), iv (((128 : Int32) ||| ((cd >>> ((12 : Int32) &&& 31)) &&& (63 : Int32))) &&& (255 : Int32)), iv (((128 : Int32) ||| ((cd >>> ((6 : Int32) &&& 31)) &&& (63 : Int32))) &&& (255 : Int32)), iv (((128 : Int32) ||| (cd &&& (63 : Int32))) &&& (255 : Int32))] [(.int (1 : Int32))]))
        refine own_finS (t := .boolean) X8 hx Bd.returns (by simp) Bd.notSynchronized (hb hby at_545) (Q := (Q0 Z vc va vf h0 n0)) hG (by decide) (by decide) ?_
        show (Q0 Z vc va vf h0 n0) _ T8.heap _
        exact ⟨rfl, N8⟩
set_option maxRecDepth 65536 in
set_option maxHeartbeats 40000000 in
theorem comes_1 {Post : Tables → Env → Array Value → State → Outcome → State → Prop} (hpost : ∀ tb e args s v u, (limb_1_1.after args s (.returned v) u = true ∧ limb_1_2.after args s (.returned v) u = true ∧ True) → FrameEnd s (.returned v) u (Jvm.fieldLocs frame_1_writes args s ++ Jvm.arrayLocs frame_1_arrays args s ++ Jvm.staticLocs frame_1_statics s) 16 128 → Post tb e args s (.returned v) u) :
    ArmFor flags0 classFile x code maxLocals ret World_1 tables_1 room_1 Calls_1 rest_1 Pre_1 Post := by
  intro l hfl _ _ p e ha hc hk s m args below hf hA hF happ hP
  obtain ⟨hcalls, hrest, hpre⟩ := hP
  obtain ⟨-, -, -, hnamed, -, -, -, hat⟩ := (Spec.applies_iff hf).mp happ
  obtain ⟨hg, hn⟩ := and_e (Cond.before_iff.mp (show (Jvm.Cond.and given_1 narrow_1).before args s = true from hpre))
  obtain ⟨gg1, gg2⟩ := and_e hg
  obtain ⟨gg3, gg4⟩ := and_e gg2
  obtain ⟨gg5, gg6⟩ := and_e gg4
  obtain ⟨w0, w1, w2, rfl⟩ : ∃ w0 w1 w2 : Value, args = #[w0, w1, w2] := by
    have hs : args.size = 3 := by simpa [Cond.value, given_1] using gg1
    obtain ⟨L⟩ := args
    match L, hs with
    | [w0, w1, w2], _ => exact ⟨w0, w1, w2, rfl⟩
  have hw := fun d (hd : d ∈ tables_1) => atoms_spec (ws := Jvm.Cond.code x code maxLocals ret :: tables_1) hat d (List.mem_cons_of_mem _ hd)
  obtain ⟨i0, ei0⟩ := is_v gg3
  obtain rfl : w0 = (.int i0) := Option.some.inj ei0
  obtain ⟨i1, ei1⟩ := is_v gg5
  obtain rfl : w1 = (.int i1) := Option.some.inj ei1
  obtain ⟨i2, ei2⟩ := is_v gg6
  obtain rfl : w2 = (.int i2) := Option.some.inj ei2
  obtain ⟨n, o, h1, h2, h3, _, L, rfl, ⟨rfl, N⟩, hq⟩ := rm0 l s _ hw tables_1 i0 i1 i2 s.heap s.heap.size (Nat.le_refl _)  p e ha hc hk s m _ below hf ((Spec.applies_iff_loose hf).mp happ).1 ⟨rfl, State.Warmed39.refl s, rfl⟩ trivial
  refine ⟨n, _, h1, h2, h3, hpost _ _ _ _ _ _ ⟨Cond.after_iff.mpr rfl, Cond.after_iff.mpr (eq_i res_at (Term.int_eval (1)) rfl), trivial⟩ ⟨hq.1, hq.2.1, (hq.2.2.sift fun y hy => Or.inr (N y hy)).mono (by decide) (by decide)⟩⟩
theorem main_1_1 : Claimed_1_1 := comes_1 fun _ _ _ _ _ _ h hF => ⟨h.1, hF⟩
theorem main_1_2 : Claimed_1_2 := comes_1 fun _ _ _ _ _ _ h hF => ⟨h.2.1, hF⟩
end Jvm.Pilot.@@N@@
namespace Jvm.Pilot.@@N@@
open Jvm Jvm.ClassFile Sem Op Lib Jvm.Free Jvm.Stand Jvm.Pilot.@@N@@.Jvm.D
/-! MADE BY PROGRAM (witnessworld.py) out of the Statement's table words and the real class files: 9 classes; the members and pool entries that the words name. The judged class is class 1, her method 1. -/
namespace start1
open Jvm.ClassFile
def u (s : String) : CpInfo := .utf8 (stringToUtf16 s)
/-- a pool by its gaps: so many unusable entries, then the entry; so many at the end -/
def gap : Nat → List CpInfo → List CpInfo
  | 0, r => r
  | n + 1, r => .unusable :: gap n r
def poolList (es : List (Nat × CpInfo)) (last : Nat) : List CpInfo := es.foldr (fun e r => gap e.1 (e.2 :: r)) (gap last [])
def pool (es : List (Nat × CpInfo)) (last : Nat) : Array CpInfo := ⟨poolList es last⟩
def fileOf (pool : Array CpInfo) (this : Nat) (attrs : Array Attribute := #[]) (ms : Array MethodInfo := #[]) (fl : Nat := 33) (sup : Nat := 0) (ifs : Array Nat := #[]) (fds : Array FieldInfo := #[]) : ClassFile where
  minorVersion := 0
  majorVersion := 65
  constantPool := pool
  accessFlags := fl
  thisClass := this
  superClass := sup
  interfaces := ifs
  fields := fds
  methods := ms
  attributes := attrs
def plain (name : String) (sup : Option ClassId) : Class where
  name := name
  kind := .ordinary
  loader := none
  accessFlags := 33
  super := sup
  interfaces := #[]
  cf := none
  fields := #[]
  methods := #[]
  instanceTypes := #[]
  staticTypes := #[]
  resolved := #[]
  callSites := []
  init := .initialized
  statics := none
  mirror := none

def pool0 : Array CpInfo := pool [(5, u "<init>"), (0, u "()V"), (1, .class_ 10), (1, u "java/lang/Object")] 113

def k0m0 : Method := { name := "<init>", desc := "()V", sig := { parameters := [], returnType := none }, accessFlags := 1, code := none }
/-- java/lang/Object -/
def k0 : Class := { plain "java/lang/Object" none with
  accessFlags := 33
  interfaces := #[]
  cf := some (fileOf pool0 8 #[] #[{ accessFlags := 1, nameIndex := 5, descriptorIndex := 6, attributes := #[] }] 33 0 #[] #[])
  fields := #[]
  methods := #[k0m0]
  instanceTypes := #[]
  staticTypes := #[]
  resolved := Array.replicate 124 none
  statics := none }

def pool1 : Array CpInfo := pool [(2, .class_ 4), (1, u "java/lang/Object"), (0, u "<init>"), (0, u "()V"), (0, .integer 2097151), (0, .integer 1114112), (0, .methodref 10 11), (0, .class_ 12), (0, .nameAndType 13 14), (0, u "com/example/belge/belge/XmlScanner"), (0, u "utf8"), (0, u "(I[BI)I"), (0, .integer 65536), (0, .methodref 17 18), (0, .class_ 19), (0, .nameAndType 20 21), (0, u "com/example/belge/belge/XmlScannerUtf8PinLaw"), (0, u "untouched"), (0, u "([BIIIB)Z"), (2, u "law"), (0, u "(III)Z")] 5

def k1m0 : Method := { name := "<init>", desc := "()V", sig := { parameters := [], returnType := none }, accessFlags := 2, code := none }
def k1c1 : Code := { maxStack := 5, maxLocals := 13, code := code, exceptionTable := #[], attributes := #[] }
def k1m1 : Method := { name := "law", desc := "(III)Z", sig := { parameters := [.int, .int, .int], returnType := some .boolean }, accessFlags := 9, code := some k1c1 }
def k1c2 : Code := { maxStack := 3, maxLocals := 5, code := method_3_code, exceptionTable := #[], attributes := #[] }
def k1m2 : Method := { name := "untouched", desc := "([BIIIB)Z", sig := { parameters := [(.array .byte), .int, .int, .int, .byte], returnType := some .boolean }, accessFlags := 10, code := some k1c2 }
/-- com/example/belge/belge/XmlScannerUtf8PinLaw -/
def k1 : Class := { plain "com/example/belge/belge/XmlScannerUtf8PinLaw" (some 0) with
  accessFlags := 49
  interfaces := #[]
  cf := some (fileOf pool1 17 #[] #[{ accessFlags := 2, nameIndex := 5, descriptorIndex := 6, attributes := #[] }, { accessFlags := 9, nameIndex := 24, descriptorIndex := 25, attributes := #[] }, { accessFlags := 10, nameIndex := 20, descriptorIndex := 21, attributes := #[] }] 49 2 #[] #[])
  fields := #[]
  methods := #[k1m0, k1m1, k1m2]
  instanceTypes := #[]
  staticTypes := #[]
  resolved := Array.replicate 31 none
  statics := none }

def pool2 : Array CpInfo := pool [(2, .class_ 4), (1, u "java/lang/Object"), (2, .class_ 8), (0, u "com/example/belge/belge/XmlScanner$Names"), (2, .class_ 13), (1, u "com/example/belge/belge/XmlScanner"), (0, u "names"), (0, u "Lcom/example/belge/belge/XmlScanner$Names;"), (0, .class_ 17), (0, u "com/example/belge/belge/XmlScanner$QName"), (2, u "elements"), (0, u "[Lcom/example/belge/belge/XmlScanner$QName;"), (4, u "elementNamespaces"), (0, u "[Ljava/lang/String;"), (5, u "bindings"), (0, u "Lcom/example/belge/belge/NamespaceBindings;"), (2, u "attributeNames"), (2, u "attributeNamespaces"), (2, u "valueStarts"), (0, u "[I"), (2, u "valueEnds"), (2, u "plainValues"), (0, u "[Z"), (2, u "attributeValues"), (2, u "character"), (0, u "[B"), (2, u "doc"), (2, u "end"), (0, u "I"), (2, u "handler"), (0, u "Lcom/example/belge/belge/XmlScanner$Handler;"), (11, u "element"), (0, u "Lcom/example/belge/belge/XmlScanner$QName;"), (3, u "Ljava/lang/String;"), (8, u "namespace"), (2, u "depth"), (2, u "attributes"), (15, u "markupStart"), (2, u "pos"), (21, u "countedTo"), (2, u "linesCounted"), (6, u "BYTE_ORDER_MARK"), (6, u "DECLARATION"), (10, .class_ 171), (0, u "com/example/belge/belge/XmlScanner$NotTaken"), (60, u "NAME"), (2, u "COMMENT"), (19, u "CDATA"), (7, u "IN_TEXT"), (17, .class_ 283), (1, u "com/example/belge/belge/XmlScanner$Handler"), (8, u "CDATA_END"), (6, u "LINE_FEED"), (39, u "tags"), (26, u "IN_DOUBLE_QUOTES"), (2, u "IN_SINGLE_QUOTES"), (76, .class_ 447), (0, u "com/example/belge/belge/XmlScanner$ExpandedName"), (28, u "NAME_START"), (12, u "entityReferences"), (39, u "utf8"), (0, u "(I[BI)I"), (0, .integer 65536), (56, u "ORDINARY"), (0, u "B"), (2, u "SPECIAL")] 84

def k2c0 : Code := { maxStack := 5, maxLocals := 3, code := prog_125_method_53_code, exceptionTable := #[], attributes := #[] }
def k2m0 : Method := { name := "utf8", desc := "(I[BI)I", sig := { parameters := [.int, (.array .byte), .int], returnType := some .int }, accessFlags := 8, code := some k2c0 }
/-- com/example/belge/belge/XmlScanner -/
def k2 : Class := { plain "com/example/belge/belge/XmlScanner" (some 0) with
  accessFlags := 48
  interfaces := #[]
  cf := some (fileOf pool2 11 #[.nestMembers #[7, 446, 16, 281, 170]] #[{ accessFlags := 8, nameIndex := 529, descriptorIndex := 530, attributes := #[] }] 48 2 #[] #[{ accessFlags := 26, nameIndex := 588, descriptorIndex := 589, attributes := #[] }, { accessFlags := 26, nameIndex := 592, descriptorIndex := 589, attributes := #[] }, { accessFlags := 26, nameIndex := 263, descriptorIndex := 58, attributes := #[] }, { accessFlags := 26, nameIndex := 366, descriptorIndex := 58, attributes := #[] }, { accessFlags := 26, nameIndex := 369, descriptorIndex := 58, attributes := #[] }, { accessFlags := 26, nameIndex := 232, descriptorIndex := 51, attributes := #[] }, { accessFlags := 26, nameIndex := 476, descriptorIndex := 51, attributes := #[] }, { accessFlags := 26, nameIndex := 299, descriptorIndex := 58, attributes := #[] }, { accessFlags := 26, nameIndex := 152, descriptorIndex := 58, attributes := #[] }, { accessFlags := 26, nameIndex := 159, descriptorIndex := 58, attributes := #[] }, { accessFlags := 26, nameIndex := 235, descriptorIndex := 58, attributes := #[] }, { accessFlags := 26, nameIndex := 255, descriptorIndex := 58, attributes := #[] }, { accessFlags := 26, nameIndex := 292, descriptorIndex := 58, attributes := #[] }, { accessFlags := 18, nameIndex := 61, descriptorIndex := 58, attributes := #[] }, { accessFlags := 18, nameIndex := 64, descriptorIndex := 65, attributes := #[] }, { accessFlags := 18, nameIndex := 68, descriptorIndex := 69, attributes := #[] }, { accessFlags := 2, nameIndex := 120, descriptorIndex := 65, attributes := #[] }, { accessFlags := 18, nameIndex := 14, descriptorIndex := 15, attributes := #[] }, { accessFlags := 2, nameIndex := 20, descriptorIndex := 21, attributes := #[] }, { accessFlags := 2, nameIndex := 26, descriptorIndex := 27, attributes := #[] }, { accessFlags := 2, nameIndex := 98, descriptorIndex := 65, attributes := #[] }, { accessFlags := 18, nameIndex := 33, descriptorIndex := 34, attributes := #[] }, { accessFlags := 2, nameIndex := 81, descriptorIndex := 82, attributes := #[] }, { accessFlags := 2, nameIndex := 95, descriptorIndex := 86, attributes := #[] }, { accessFlags := 2, nameIndex := 37, descriptorIndex := 21, attributes := #[] }, { accessFlags := 2, nameIndex := 40, descriptorIndex := 27, attributes := #[] }, { accessFlags := 2, nameIndex := 43, descriptorIndex := 44, attributes := #[] }, { accessFlags := 2, nameIndex := 47, descriptorIndex := 44, attributes := #[] }, { accessFlags := 2, nameIndex := 50, descriptorIndex := 51, attributes := #[] }, { accessFlags := 2, nameIndex := 54, descriptorIndex := 27, attributes := #[] }, { accessFlags := 2, nameIndex := 101, descriptorIndex := 65, attributes := #[] }, { accessFlags := 2, nameIndex := 339, descriptorIndex := 65, attributes := #[] }, { accessFlags := 2, nameIndex := 117, descriptorIndex := 65, attributes := #[] }, { accessFlags := 2, nameIndex := 489, descriptorIndex := 65, attributes := #[] }, { accessFlags := 18, nameIndex := 57, descriptorIndex := 58, attributes := #[] }, { accessFlags := 2, nameIndex := 145, descriptorIndex := 65, attributes := #[] }, { accessFlags := 2, nameIndex := 142, descriptorIndex := 65, attributes := #[] }])
  fields := #[{ name := "ORDINARY", type := .byte, accessFlags := 26, slot := 0, constantValue := 0 }, { name := "SPECIAL", type := .byte, accessFlags := 26, slot := 1, constantValue := 0 }, { name := "IN_TEXT", type := (.array .byte), accessFlags := 26, slot := 2, constantValue := 0 }, { name := "IN_DOUBLE_QUOTES", type := (.array .byte), accessFlags := 26, slot := 3, constantValue := 0 }, { name := "IN_SINGLE_QUOTES", type := (.array .byte), accessFlags := 26, slot := 4, constantValue := 0 }, { name := "NAME", type := (.array .boolean), accessFlags := 26, slot := 5, constantValue := 0 }, { name := "NAME_START", type := (.array .boolean), accessFlags := 26, slot := 6, constantValue := 0 }, { name := "LINE_FEED", type := (.array .byte), accessFlags := 26, slot := 7, constantValue := 0 }, { name := "BYTE_ORDER_MARK", type := (.array .byte), accessFlags := 26, slot := 8, constantValue := 0 }, { name := "DECLARATION", type := (.array .byte), accessFlags := 26, slot := 9, constantValue := 0 }, { name := "COMMENT", type := (.array .byte), accessFlags := 26, slot := 10, constantValue := 0 }, { name := "CDATA", type := (.array .byte), accessFlags := 26, slot := 11, constantValue := 0 }, { name := "CDATA_END", type := (.array .byte), accessFlags := 26, slot := 12, constantValue := 0 }, { name := "doc", type := (.array .byte), accessFlags := 18, slot := 0, constantValue := 0 }, { name := "end", type := .int, accessFlags := 18, slot := 1, constantValue := 0 }, { name := "handler", type := (.object "com/example/belge/belge/XmlScanner$Handler"), accessFlags := 18, slot := 2, constantValue := 0 }, { name := "pos", type := .int, accessFlags := 2, slot := 3, constantValue := 0 }, { name := "names", type := (.object "com/example/belge/belge/XmlScanner$Names"), accessFlags := 18, slot := 4, constantValue := 0 }, { name := "elements", type := (.array (.object "com/example/belge/belge/XmlScanner$QName")), accessFlags := 2, slot := 5, constantValue := 0 }, { name := "elementNamespaces", type := (.array (.object "java/lang/String")), accessFlags := 2, slot := 6, constantValue := 0 }, { name := "depth", type := .int, accessFlags := 2, slot := 7, constantValue := 0 }, { name := "bindings", type := (.object "com/example/belge/belge/NamespaceBindings"), accessFlags := 18, slot := 8, constantValue := 0 }, { name := "element", type := (.object "com/example/belge/belge/XmlScanner$QName"), accessFlags := 2, slot := 9, constantValue := 0 }, { name := "namespace", type := (.object "java/lang/String"), accessFlags := 2, slot := 10, constantValue := 0 }, { name := "attributeNames", type := (.array (.object "com/example/belge/belge/XmlScanner$QName")), accessFlags := 2, slot := 11, constantValue := 0 }, { name := "attributeNamespaces", type := (.array (.object "java/lang/String")), accessFlags := 2, slot := 12, constantValue := 0 }, { name := "valueStarts", type := (.array .int), accessFlags := 2, slot := 13, constantValue := 0 }, { name := "valueEnds", type := (.array .int), accessFlags := 2, slot := 14, constantValue := 0 }, { name := "plainValues", type := (.array .boolean), accessFlags := 2, slot := 15, constantValue := 0 }, { name := "attributeValues", type := (.array (.object "java/lang/String")), accessFlags := 2, slot := 16, constantValue := 0 }, { name := "attributes", type := .int, accessFlags := 2, slot := 17, constantValue := 0 }, { name := "tags", type := .int, accessFlags := 2, slot := 18, constantValue := 0 }, { name := "markupStart", type := .int, accessFlags := 2, slot := 19, constantValue := 0 }, { name := "entityReferences", type := .int, accessFlags := 2, slot := 20, constantValue := 0 }, { name := "character", type := (.array .byte), accessFlags := 18, slot := 21, constantValue := 0 }, { name := "linesCounted", type := .int, accessFlags := 2, slot := 22, constantValue := 0 }, { name := "countedTo", type := .int, accessFlags := 2, slot := 23, constantValue := 0 }]
  methods := #[k2m0]
  instanceTypes := #[(.array .byte), .int, (.object "com/example/belge/belge/XmlScanner$Handler"), .int, (.object "com/example/belge/belge/XmlScanner$Names"), (.array (.object "com/example/belge/belge/XmlScanner$QName")), (.array (.object "java/lang/String")), .int, (.object "com/example/belge/belge/NamespaceBindings"), (.object "com/example/belge/belge/XmlScanner$QName"), (.object "java/lang/String"), (.array (.object "com/example/belge/belge/XmlScanner$QName")), (.array (.object "java/lang/String")), (.array .int), (.array .int), (.array .boolean), (.array (.object "java/lang/String")), .int, .int, .int, .int, (.array .byte), .int, .int]
  staticTypes := #[.byte, .byte, (.array .byte), (.array .byte), (.array .byte), (.array .boolean), (.array .boolean), (.array .byte), (.array .byte), (.array .byte), (.array .byte), (.array .byte), (.array .byte)]
  resolved := Array.replicate 677 none
  statics := none }

def pool3 : Array CpInfo := pool [(1, u "java/lang/Cloneable"), (0, .class_ 1), (0, u "java/lang/Object"), (0, .class_ 3)] 3

/-- java/lang/Cloneable -/
def k3 : Class := { plain "java/lang/Cloneable" (some 0) with
  accessFlags := 1537
  interfaces := #[]
  cf := some (fileOf pool3 2 #[] #[] 1537 4 #[] #[])
  fields := #[]
  methods := #[]
  instanceTypes := #[]
  staticTypes := #[]
  resolved := Array.replicate 8 none
  statics := none }

def pool4 : Array CpInfo := pool [(1, u "java/io/Serializable"), (0, .class_ 1), (0, u "java/lang/Object"), (0, .class_ 3)] 3

/-- java/io/Serializable -/
def k4 : Class := { plain "java/io/Serializable" (some 0) with
  accessFlags := 1537
  interfaces := #[]
  cf := some (fileOf pool4 2 #[] #[] 1537 4 #[] #[])
  fields := #[]
  methods := #[]
  instanceTypes := #[]
  staticTypes := #[]
  resolved := Array.replicate 8 none
  statics := none }

/-- the primitive byte -/
def k5 : Class := { plain "byte" none with kind := .primitive 'B', accessFlags := 0x411 }
/-- [B -/
def k6 : Class := { plain "[B" (some 0) with kind := .array 5 .byte, interfaces := #[3, 4], accessFlags := 1041 }

/-- the primitive int -/
def k7 : Class := { plain "int" none with kind := .primitive 'I', accessFlags := 0x411 }
/-- [I -/
def k8 : Class := { plain "[I" (some 0) with kind := .array 7 .int, interfaces := #[3, 4], accessFlags := 1041 }

def heap : Heap := #[]
def classes : Array Class := #[k0, k1, k2, k3, k4, k5, k6, k7, k8]
def interned : List (Array UInt16 × Addr) := []
def slotsUsed : Nat := 0
def theMethod : MethodId := ⟨1, 1⟩
def args0 : Array Value := #[.int 5, .int 6, .int 7]
def aboutOver (below : List Frame) : State where
  vm := { classes := classes, interned := interned.toArray }
  heap := heap
  slotsUsed := slotsUsed
  threads := #[{ frames := .invoking theMethod args0 :: below }]
def below0 : List Frame := [.native { method := ⟨0, 0⟩, args := #[] }]
def about1 : State := aboutOver below0
def p0 : Program := .bare "" "" ""
def e0 : Env := launch0.env 0 0 0
theorem w_frames : about1.frames = Frame.invoking theMethod args0 :: below0 := rfl
set_option maxRecDepth 65536 in
theorem w_args : argsFit about1.vm theMethod args0 = true := by decide +kernel
set_option maxRecDepth 65536 in
theorem w_heap : heapFits about1 = true := by decide +kernel
set_option maxRecDepth 65536 in
theorem w_runnable : about1.curStatus? = some .runnable := by decide +kernel
set_option maxRecDepth 65536 in
theorem w_alone : about1.alone = true := by decide +kernel
set_option maxRecDepth 65536 in
theorem w_named : about1.methodNamed? x = some theMethod := by decide +kernel
set_option maxRecDepth 65536 in
theorem w_hears : about1.hears theMethod below0 = true := by decide +kernel
set_option maxRecDepth 65536 in
theorem w_ripe : about1.ripe theMethod args0 below0 = true := by decide +kernel
theorem w_running : about1.status = .running := rfl
set_option maxRecDepth 65536 in
theorem w_room : about1.hasRoom e0.platform room_1 = true :=
  launch0.hasRoom_least _ room_1 (by decide +kernel) (by decide +kernel) (by decide +kernel) (by decide +kernel) (by decide +kernel) (by decide +kernel)
theorem allAtoms_all (ts : List Jvm.Cond) (a : Array Jvm.Value) (st : Jvm.State) : (allAtoms ts).before a st = ts.all (fun c => c.before a st) := by
  induction ts with
  | nil => rfl
  | cons c t ih =>
    show (Jvm.Cond.and c (allAtoms t)).before a st = _
    rw [Jvm.Cond.before_and, ih, List.all_cons]
def words1 : List Jvm.Cond := Jvm.Cond.code x code maxLocals ret :: tables_1
/-- a 'code' word, met by the world's own term for the bytes: nothing is compared byte by byte -/
theorem code_word {y : MethodName} {bytes : ByteArray} {mx : Nat} {rt : Option FieldType} {a : Array Value} {s : State} {m : MethodId} {meth : Method} {c : Code} (h1 : s.methodNamed? y = some m) (h2 : s.vm.method? m = some meth) (h3 : meth.code = some c) (h4 : c.code = bytes)
    (h5 : (c.maxLocals == mx && c.exceptionTable.isEmpty && decide (c.maxStack ≤ mostOperands) && decide (meth.sig.returnType = rt) && !meth.locks && decide (parseMethodDescriptor y.desc = some meth.sig)) = true) : (Jvm.Cond.code y bytes mx rt).before a s = true := by
  simp only [Bool.and_eq_true, beq_iff_eq, Bool.not_eq_true', decide_eq_true_eq] at h5
  obtain ⟨⟨⟨⟨⟨g1, g2⟩, g3⟩, g4⟩, g5⟩, g6⟩ := h5
  simp [Cond.before, Cond.holds, Cond.value, h1, h2, h3, h4, g1, g2, g3, g4, g5, g6]
def isCode : Jvm.Cond → Bool
  | .code _ _ _ _ => true
  | _ => false
theorem all_split {L : List Jvm.Cond} {P : Jvm.Cond → Bool} (h1 : L.all (fun c => isCode c || P c) = true) (h2 : ∀ c ∈ L.filter isCode, P c = true) : L.all P = true := by
  refine List.all_eq_true.mpr fun c hc => ?_
  have h := List.all_eq_true.mp h1 c hc
  rcases Bool.eq_false_or_eq_true (isCode c) with hi | hi
  · exact h2 c (List.mem_filter.mpr ⟨hc, hi⟩)
  · simpa [hi] using h
set_option maxRecDepth 65536 in
theorem w_c0 : (Jvm.Cond.code x code maxLocals ret).before args0 about1 = true := code_word (m := ⟨1, 1⟩) (meth := k1m1) (c := k1c1) (by decide +kernel) rfl rfl rfl (by decide +kernel)
set_option maxRecDepth 65536 in
theorem w_c1 : (Jvm.Cond.code ({ cls := "com/example/belge/belge/XmlScanner", name := "utf8", desc := "(I[BI)I" } : Jvm.MethodName) prog_125_method_53_code (3 : Nat) (Option.some Jvm.ClassFile.FieldType.int)).before args0 about1 = true := code_word (m := ⟨2, 0⟩) (meth := k2m0) (c := k2c0) (by decide +kernel) rfl rfl rfl (by decide +kernel)
set_option maxRecDepth 65536 in
theorem w_c2 : (Jvm.Cond.code ({ cls := "com/example/belge/belge/XmlScannerUtf8PinLaw", name := "untouched", desc := "([BIIIB)Z" } : Jvm.MethodName) method_3_code (5 : Nat) (Option.some Jvm.ClassFile.FieldType.boolean)).before args0 about1 = true := code_word (m := ⟨1, 2⟩) (meth := k1m2) (c := k1c2) (by decide +kernel) rfl rfl rfl (by decide +kernel)
def codes1 : List Jvm.Cond := [Jvm.Cond.code x code maxLocals ret, Jvm.Cond.code ({ cls := "com/example/belge/belge/XmlScanner", name := "utf8", desc := "(I[BI)I" } : Jvm.MethodName) prog_125_method_53_code (3 : Nat) (Option.some Jvm.ClassFile.FieldType.int), Jvm.Cond.code ({ cls := "com/example/belge/belge/XmlScannerUtf8PinLaw", name := "untouched", desc := "([BIIIB)Z" } : Jvm.MethodName) method_3_code (5 : Nat) (Option.some Jvm.ClassFile.FieldType.boolean)]
set_option maxRecDepth 65536 in
theorem codes_eq : words1.filter isCode = codes1 := rfl
theorem w_codes : ∀ c ∈ words1.filter isCode, c.before args0 about1 = true := by
  rw [codes_eq]
  intro c hc
  simp only [codes1, List.mem_cons, List.not_mem_nil, or_false] at hc
  rcases hc with rfl | rfl | rfl
  · exact w_c0
  · exact w_c1
  · exact w_c2
set_option maxRecDepth 65536 in
theorem w_t1 : words1.all (fun c => isCode c || c.before args0 about1) = true := by decide +kernel
theorem w_tables : (allAtoms (Jvm.Cond.code x code maxLocals ret :: tables_1)).before args0 about1 = true := by
  rw [allAtoms_all]
  show words1.all (fun c => c.before args0 about1) = true
  refine all_split ?_ w_codes
  rw [w_t1]
set_option maxRecDepth 65536 in
theorem w_case : (Jvm.Cond.and given_1 narrow_1).before args0 about1 = true := by decide +kernel
theorem w_applies : (headSpec (Jvm.Cond.code x code maxLocals ret :: tables_1) room_1).applies x e0.platform about1 = true :=
  (Spec.applies_iff w_frames).mpr ⟨w_running, w_runnable, w_alone, w_named, w_hears, w_ripe, w_room, w_tables⟩
theorem atStart : AtStart classFile x code maxLocals ret World_1 tables_1 room_1 Calls_1 rest_1 Pre_1 launch0 p0 e0 about1 theMethod args0 below0 :=
  ⟨lists_1, trivial, launch0.admits_env _ _ _, launch0.least_env, fairChoices_fair.cas, fairChoices_fair.clock, w_frames, w_args, w_heap, w_applies, trivial, trivial, w_case⟩
end start1
theorem witness_1 : WitnessClaimed_1 := ⟨start1.p0, start1.e0, start1.about1, start1.theMethod, start1.args0, start1.below0, start1.atStart⟩
end Jvm.Pilot.@@N@@
