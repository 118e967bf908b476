import JvmDerived
import JvmDerived.Pilot.@@N@@Statement
import JvmDerived.Pilot.@@N@@Code
set_option linter.unusedVariables false
set_option linter.unusedSimpArgs false
namespace Jvm.RoadKit
open Sem ClassFile Op Lib Jvm.Stand Jvm.Free Jvm.LawKit
section New
variable {p : Program} {l : Launch} {e : Env} {R : Room} {s : State} {m : MethodId} {args : Array Value} {below : List Frame} {meth : Method} {c : Code} {T : State} {locs : List Loc} {cells slots : Nat}
theorem retI (X : Stand p l e R s m args below meth c T locs cells slots) (hx : p.tables.exec = Jvm.exec) {pc : Nat} {Ls : Array Slot} {z : Int32} {rest : List Value} (hret : meth.sig.returnType = some .int) (hd : decode c.code pc = .ok (.ireturn, 1)) {fs : List Frame}
    (hl : ∀ (f : JFrame) (acts : List Action), f.method = m → f.locked = none → f.entered = [] → (doReturn e (T.setTop f) acts (some (.int z))).1 = T.setFrames fs) : Steps p.tables e below (T.setTop (mkF m pc Ls (.int z :: rest))) (T.setFrames fs) := by
  have hm' : T.vm.method? m = some meth := X.method'
  have hn : narrow .int (.int z) = .int z := rfl
  show Steps p.tables e below (T.setTop { method := m, pc := pc, locals := Ls, stack := _ :: rest, locked := none }) _
  jvm_step X.here [X.here.top, hx, hd, hm', hret, hn]
  first | (intro acts; rw [hl _ acts rfl rfl rfl]) | rw [hl _ _ rfl rfl rfl]
  exact Steps.refl _
end New
end Jvm.RoadKit
namespace Jvm.Pilot.@@N@@
open Jvm Jvm.ClassFile Sem Op Lib Jvm.Free Jvm.Stand Jvm.LawKit Jvm.RoadKit Bundle Jvm.Pilot.@@N@@.Jvm.D
abbrev un : Slot := .unset
theorem own_tn {j : Int32} {i : Nat} (hj : j.toInt = (i : Int)) : j.toNatClampNeg = i := by
  simp only [Int32.toNatClampNeg, hj]; rfl
theorem own_inb {j : Int32} {i n k : Nat} (hj : j.toInt = (i : Int)) (hi : i < n) (hn : k = n) : ¬ (j < 0 ∨ k ≤ j.toNatClampNeg) := by
  rw [own_tn hj, hn]
  rintro (h | h)
  · rw [Int32.lt_iff_toInt_lt, hj] at h
    have e0 : (0 : Int32).toInt = 0 := rfl
    omega
  · omega
theorem own_selP {s : State} {a1 a2 : Array Value} {y : MethodName} {n : Nat} (wi : (Jvm.Cond.instantiable y.cls n).before a1 s = true) (hpriv : s.PrivateAt y) (hinst : (Jvm.Cond.instanceMethod y).before a2 s = true) (hy : y.cls ≠ "java/lang/invoke/MethodHandle" ∧ y.cls ≠ "java/lang/invoke/VarHandle") : (Jvm.Cond.selects y.cls y y).before a2 s = true := by
  obtain ⟨c, k, h1, h2, h3, h4, -⟩ := Cond.instantiable_spec wi
  exact selects_self_of_private h1 h2 (by simp at h4; exact h4.1) hpriv hinst hy
def Ends (tb : Tables) (e : Env) (below : List Frame) (G : State → Outcome → Prop) (S : State) : Prop := ∃ s₂ o, Steps tb e below S s₂ ∧ s₂.status = .running ∧ Ended s₂ below o ∧ G s₂ o
section OwnEnds
variable {tb : Tables} {e : Env} {below : List Frame} {G : State → Outcome → Prop} {S S' : State}
theorem Ends.go (h : ∀ t, Steps tb e below S' t → Steps tb e below S t) (k : Ends tb e below G S') : Ends tb e below G S := by
  obtain ⟨s₂, o, a, b⟩ := k
  exact ⟨s₂, o, h _ a, b⟩
theorem Ends.any (h : ∀ G', (∀ s₂ o, G s₂ o → G' s₂ o) → Ends tb e below G' S) : Ends tb e below G S := h G fun _ _ k => k
end OwnEnds
section OwnFin
variable {p : Program} {l : Launch} {e : Env} {R : Room} {s : State} {m : MethodId} {args : Array Value} {below : List Frame} {meth : Method} {c : Code} {T : State} {locs : List Loc} {cells slots : Nat} {G : State → Outcome → Prop}
theorem own_finI (X : Stand p l e R s m args below meth c T locs cells slots) (hx : p.tables.exec = Jvm.exec) {pc : Nat} {Ls : Array Slot} {z : Int32} {rest : List Value} (hret : meth.sig.returnType = some .int) (hlk : meth.locks = false) (hd : decode c.code pc = .ok (.ireturn, 1)) {Q : Option Value → Heap → List Loc → Prop} {C K : Nat}
    (hG : ∀ s₂ o, (∃ v L, o = .returned v ∧ Q v s₂.heap L ∧ FrameEnd s o s₂ L C K) → G s₂ o) (hC : cells ≤ C) (hK : slots ≤ K) (hQ : Q (some (.int z)) T.heap locs) : Ends p.tables e below G (T.setTop (mkF m pc Ls (.int z :: rest))) := by
  obtain ⟨fs, hr, hrun, hended, hW, hsame⟩ := X.leave (v := some (.int z)) (fun h => by rw [hret] at h; cases h)
  exact ⟨_, _, retI X hx hret hd hr, hrun, hended, hG _ _ ⟨_, _, rfl, hQ, ⟨_, rfl⟩, hW, hsame.mono hC hK⟩⟩
theorem own_finS (X : Stand p l e R s m args below meth c T locs cells slots) (hx : p.tables.exec = Jvm.exec) {t : FieldType} {pc : Nat} {Ls : Array Slot} {z : Int32} {rest : List Value} (hret : meth.sig.returnType = some t) (ht : t = .boolean ∨ t = .byte ∨ t = .char ∨ t = .short) (hlk : meth.locks = false) (hd : decode c.code pc = .ok (.ireturn, 1)) {Q : Option Value → Heap → List Loc → Prop} {C K : Nat}
    (hG : ∀ s₂ o, (∃ v L, o = .returned v ∧ Q v s₂.heap L ∧ FrameEnd s o s₂ L C K) → G s₂ o) (hC : cells ≤ C) (hK : slots ≤ K) (hQ : Q (some (.int (nar t z))) T.heap locs) : Ends p.tables e below G (T.setTop (mkF m pc Ls (.int z :: rest))) := by
  obtain ⟨fs, hr, hrun, hended, hW, hsame⟩ := X.leave (v := some (.int (nar t z))) (fun h => by rw [hret] at h; cases h)
  exact ⟨_, _, retN X hx (t := t) hret ht hd hr, hrun, hended, hG _ _ ⟨_, _, rfl, hQ, ⟨_, rfl⟩, hW, hsame.mono hC hK⟩⟩
theorem own_finN (X : Stand p l e R s m args below meth c T locs cells slots) (hx : p.tables.exec = Jvm.exec) {pc : Nat} {Ls : Array Slot} (hret : meth.sig.returnType = none) (hlk : meth.locks = false) (hd : decode c.code pc = .ok (.return_, 1)) {Q : Option Value → Heap → List Loc → Prop} {C K : Nat}
    (hG : ∀ s₂ o, (∃ v L, o = .returned v ∧ Q v s₂.heap L ∧ FrameEnd s o s₂ L C K) → G s₂ o) (hC : cells ≤ C) (hK : slots ≤ K) (hQ : Q none T.heap locs) : Ends p.tables e below G (T.setTop (mkF m pc Ls [])) := by
  obtain ⟨fs, hr, hrun, hended, hW, hsame⟩ := X.leave (v := none) (fun _ => rfl)
  exact ⟨_, _, X.returnOut hx hret hd hr, hrun, hended, hG _ _ ⟨_, _, rfl, hQ, ⟨_, rfl⟩, hW, hsame.mono hC hK⟩⟩
end OwnFin
/-- an array by what each place holds -/
def AF (Z : State) (h : Heap) (a : Addr) (ty : FieldType) (n : Nat) (f : Nat → Value) : Prop := ∃ c : Cell, Arr Z h a c ty ∧ c.slots.size = n ∧ ∀ j, j < n → c.slots[j]? = some (f j)
section OwnAF
variable {Z : State} {h h' : Heap} {a b : Addr} {ty : FieldType} {n sl : Nat} {f g : Nat → Value} {v : Value} {ws : List Addr}
theorem AF.lt (F : AF Z h a ty n f) : a < h.size := by obtain ⟨c, A, -⟩ := F; exact A.lt
theorem AF.ext (F : AF Z h a ty n f) (E : Ext h h') : AF Z h' a ty n f := by obtain ⟨c, A, r⟩ := F; exact ⟨c, A.ext E, r⟩
theorem AF.other (F : AF Z h b ty n f) (W : Wr h h' a sl v) (q : b ≠ a) : AF Z h' b ty n f := by obtain ⟨c, A, r⟩ := F; exact ⟨c, A.other W q, r⟩
theorem AF.keep (F : AF Z h a ty n f) (K : Keep h h' ws) (q : a ∉ ws) : AF Z h' a ty n f := by obtain ⟨c, A, r⟩ := F; exact ⟨c, ⟨K.2.1 a c A.1 q, A.2⟩, r⟩
theorem AF.congr (F : AF Z h a ty n f) (q : ∀ j, j < n → f j = g j) : AF Z h a ty n g := by obtain ⟨c, A, r, u⟩ := F; exact ⟨c, A, r, fun j hj => by rw [u j hj, q j hj]⟩
theorem AF.new {k : ClassId} {z : Int32} (A : Arr Z h a (newA k ty z) ty) (q : z.toNatClampNeg = n) : AF Z h a ty n (fun _ => defaultValue ty) := ⟨_, A, by rw [sz_new]; exact q, fun i hi => by
  rw [← q] at hi; simp [newA, hi]⟩
theorem AF.set (F : AF Z h a ty n f) (W : Wr h h' a sl v) (hs : sl < n) : AF Z h' a ty n (fun k => if k = sl then v else f k) := by
  obtain ⟨c, A, r, u⟩ := F
  refine ⟨_, A.same W, by rw [sz_set]; exact r, fun j hj => ?_⟩
  by_cases q : j = sl
  · subst q; simp [Cell.setSlot, r, hj]
  · have := u j hj
    simp only [Cell.setSlot, if_neg q]
    rw [Array.getElem?_setIfInBounds_ne (fun z => q z.symm)]; exact this
variable {p : Program} {l : Launch} {e : Env} {R : Room} {s : State} {m : MethodId} {args : Array Value} {below : List Frame} {meth : Method} {c : Code} {T : State} {locs : List Loc} {cells slots : Nat}
theorem AF.ldB (F : AF Z h a .byte n f) (X : Stand p l e R s m args below meth c T locs cells slots) (hx : p.tables.exec = Jvm.exec) (hZ : Z.Warmed39 s.vm) (eT : T.heap = h) {j : Int32} {i : Nat} (hj : j.toInt = (i : Int)) (hi : i < n) {v : Value} (hv : f i = v) {g : JFrame} (hg : g.method = m) {rest : List Value} (hs : g.stack = .int j :: .ref a :: rest) (hd : decode c.code g.pc = .ok (.baload, 1)) (target : State)
    (k : Steps p.tables e below (T.setTop { g with pc := g.pc + 1, stack := v :: rest }) target) : Steps p.tables e below (T.setTop g) target := by
  obtain ⟨cl, A, r, u⟩ := F
  exact X.baloadBytes hx (by rw [eT]; exact A.1) (State.isArrayOf_alike hZ.alike A.2.1) A.2.2 (own_inb hj hi r) (by rw [own_tn hj, u i hi, hv]) hg hs hd _ k
theorem AF.ldC (F : AF Z h a .char n f) (X : Stand p l e R s m args below meth c T locs cells slots) (hx : p.tables.exec = Jvm.exec) (hZ : Z.Warmed39 s.vm) (eT : T.heap = h) {j : Int32} {i : Nat} (hj : j.toInt = (i : Int)) (hi : i < n) {v : Value} (hv : f i = v) {g : JFrame} (hg : g.method = m) {rest : List Value} (hs : g.stack = .int j :: .ref a :: rest) (hd : decode c.code g.pc = .ok (.caload, 1)) (target : State)
    (k : Steps p.tables e below (T.setTop { g with pc := g.pc + 1, stack := v :: rest }) target) : Steps p.tables e below (T.setTop g) target := by
  obtain ⟨cl, A, r, u⟩ := F
  exact X.caload hx (by rw [eT]; exact A.1) (State.isArrayOf_alike hZ.alike A.2.1) A.2.2 (own_inb hj hi r) (by rw [own_tn hj, u i hi, hv]) hg hs hd _ k
theorem AF.ldJ (F : AF Z h a .long n f) (X : Stand p l e R s m args below meth c T locs cells slots) (hx : p.tables.exec = Jvm.exec) (hZ : Z.Warmed39 s.vm) (eT : T.heap = h) {j : Int32} {i : Nat} (hj : j.toInt = (i : Int)) (hi : i < n) {v : Value} (hv : f i = v) {g : JFrame} (hg : g.method = m) {rest : List Value} (hs : g.stack = .int j :: .ref a :: rest) (hd : decode c.code g.pc = .ok (.laload, 1)) (target : State)
    (k : Steps p.tables e below (T.setTop { g with pc := g.pc + 1, stack := v :: rest }) target) : Steps p.tables e below (T.setTop g) target := by
  obtain ⟨cl, A, r, u⟩ := F
  exact X.laload hx (by rw [eT]; exact A.1) (State.isArrayOf_alike hZ.alike A.2.1) A.2.2 (own_inb hj hi r) (by rw [own_tn hj, u i hi, hv]) hg hs hd _ k
theorem AF.len (F : AF Z h a ty n f) (X : Stand p l e R s m args below meth c T locs cells slots) (hx : p.tables.exec = Jvm.exec) (hZ : Z.Warmed39 s.vm) (eT : T.heap = h) {z : Int32} (hz : n.toInt32 = z) {g : JFrame} (hg : g.method = m) {rest : List Value} (hs : g.stack = .ref a :: rest) (hd : decode c.code g.pc = .ok (.arraylength, 1)) (target : State)
    (k : Steps p.tables e below (T.setTop { g with pc := g.pc + 1, stack := .int z :: rest }) target) : Steps p.tables e below (T.setTop g) target := by
  obtain ⟨cl, A, r, u⟩ := F
  subst hz r
  exact X.arraylength hx (by rw [eT]; exact A.1) (State.isArrayOf_alike hZ.alike A.2.1) hg hs hd _ k
theorem AF.stB (F : AF Z h a .byte n f) (X : Stand p l e R s m args below meth c T locs cells slots) (hx : p.tables.exec = Jvm.exec) (hZ : Z.Warmed39 s.vm) (eT : T.heap = h) {j x : Int32} {i : Nat} (hj : j.toInt = (i : Int)) (hi : i < n) {g : JFrame} (hg : g.method = m) {rest : List Value} (hs : g.stack = .int x :: .int j :: .ref a :: rest) (hd : decode c.code g.pc = .ok (.bastore, 1)) :
    ∃ T' h', Stand p l e R s m args below meth c T' (locs ++ [⟨a, i⟩]) cells slots ∧ T'.heap = h' ∧ Wr h h' a i (.int (nar .byte x)) ∧ AF Z h' a .byte n (fun k => if k = i then .int (nar .byte x) else f k) ∧ ∀ target, Steps p.tables e below (T'.setTop { g with pc := g.pc + 1, stack := rest }) target → Steps p.tables e below (T.setTop g) target := by
  have F' := F
  obtain ⟨cl, A, r, u⟩ := F
  obtain ⟨T', h', X', e', W', st⟩ := RoadKit.stB X hx hZ eT A (own_inb hj hi r) hg hs hd
  rw [own_tn hj] at X' W'
  exact ⟨T', h', X', e', W', F'.set W' hi, st⟩
theorem AF.stC (F : AF Z h a .char n f) (X : Stand p l e R s m args below meth c T locs cells slots) (hx : p.tables.exec = Jvm.exec) (hZ : Z.Warmed39 s.vm) (eT : T.heap = h) {j x : Int32} {i : Nat} (hj : j.toInt = (i : Int)) (hi : i < n) {g : JFrame} (hg : g.method = m) {rest : List Value} (hs : g.stack = .int x :: .int j :: .ref a :: rest) (hd : decode c.code g.pc = .ok (.castore, 1)) :
    ∃ T' h', Stand p l e R s m args below meth c T' (locs ++ [⟨a, i⟩]) cells slots ∧ T'.heap = h' ∧ Wr h h' a i (.int (nar .char x)) ∧ AF Z h' a .char n (fun k => if k = i then .int (nar .char x) else f k) ∧ ∀ target, Steps p.tables e below (T'.setTop { g with pc := g.pc + 1, stack := rest }) target → Steps p.tables e below (T.setTop g) target := by
  have F' := F
  obtain ⟨cl, A, r, u⟩ := F
  obtain ⟨T', h', X', e', W', st⟩ := RoadKit.stC X hx hZ eT A (own_inb hj hi r) hg hs hd
  rw [own_tn hj] at X' W'
  exact ⟨T', h', X', e', W', F'.set W' hi, st⟩
theorem AF.stJ (F : AF Z h a .long n f) (X : Stand p l e R s m args below meth c T locs cells slots) (hx : p.tables.exec = Jvm.exec) (hZ : Z.Warmed39 s.vm) (eT : T.heap = h) {j : Int32} {x : Int64} {i : Nat} (hj : j.toInt = (i : Int)) (hi : i < n) {g : JFrame} (hg : g.method = m) {rest : List Value} (hs : g.stack = .long x :: .int j :: .ref a :: rest) (hd : decode c.code g.pc = .ok (.lastore, 1)) :
    ∃ T' h', Stand p l e R s m args below meth c T' (locs ++ [⟨a, i⟩]) cells slots ∧ T'.heap = h' ∧ Wr h h' a i (.long x) ∧ AF Z h' a .long n (fun k => if k = i then .long x else f k) ∧ ∀ target, Steps p.tables e below (T'.setTop { g with pc := g.pc + 1, stack := rest }) target → Steps p.tables e below (T.setTop g) target := by
  have F' := F
  obtain ⟨cl, A, r, u⟩ := F
  obtain ⟨T', h', X', e', W', st⟩ := RoadKit.stJ X hx hZ eT A (own_inb hj hi r) hg hs hd
  rw [own_tn hj] at X' W'
  exact ⟨T', h', X', e', W', F'.set W' hi, st⟩
end OwnAF
theorem own_lt {x y : Int32} {a b : Nat} (hx : x.toInt = (a : Int)) (hy : y.toInt = (b : Int)) : x < y ↔ a < b := by rw [Int32.lt_iff_toInt_lt, hx, hy]; omega
theorem own_eqn {x y : Int32} {a b : Nat} (hx : x.toInt = (a : Int)) (hy : y.toInt = (b : Int)) : x = y ↔ a = b := by rw [← Int32.toInt_inj, hx, hy]; omega
theorem own_add {x y : Int32} {a b : Nat} (hx : x.toInt = (a : Int)) (hy : y.toInt = (b : Int)) (h : a + b < 2147483648) : (x + y).toInt = ((a + b : Nat) : Int) := by
  have q1 := c_iadd x y
  have q2 := rng32 (x + y)
  omega
theorem own_iremM (x y : Int32) : x - (x / y) * y = x % y := by
  apply Int32.toInt_inj.mp
  have h1 := Int32.le_toInt (x % y)
  have h2 := Int32.toInt_lt (x % y)
  rw [Int32.toInt_sub, Int32.toInt_mul, Int32.toInt_div, Int.bmod_mul_bmod, Int.sub_bmod_bmod, Int.mul_comm (x.toInt.tdiv y.toInt), ← Int.tmod_def, ← Int32.toInt_mod]
  exact Int.bmod_eq_of_le_mul_two (by omega) (by omega)
theorem own_iremV {x y : Int32} {b : Nat} (hx : 0 ≤ x.toInt) (hy : y.toInt = (b : Int)) : (x - (x / y) * y).toInt = x.toInt % (b : Int) := by
  rw [own_iremM]; exact (c_irem x y b hy).1 hx
theorem own_irem {x y : Int32} {b : Nat} (hx : 0 ≤ x.toInt) (hy : y.toInt = (b : Int)) (hb : 0 < b) : ∃ r : Nat, r < b ∧ (x - (x / y) * y).toInt = (r : Int) := by
  have h := own_iremV hx hy
  have h1 := Int.emod_nonneg x.toInt (b := (b : Int)) (by omega)
  have h2 := Int.emod_lt_of_pos x.toInt (b := (b : Int)) (by omega)
  exact ⟨(x.toInt % (b : Int)).toNat, by omega, by omega⟩
theorem own_mask31 (x : Int32) : 0 ≤ (x &&& 2147483647).toInt := by
  have h := c_mask x 2147483647 31 (by decide) (by decide)
  rw [h]; exact Int.emod_nonneg _ (by decide)
theorem own_ne0 {y : Int32} {b : Nat} (hy : y.toInt = (b : Int)) (hb : 0 < b) : y ≠ 0 := fun h => by
  subst h
  have : (0 : Int32).toInt = 0 := rfl
  omega
theorem own_char {x : Int32} {n : Nat} (hx : x.toInt = (n : Int)) (hn : n < 65536) : nar .char (x.toUInt32.toUInt16.toUInt32.toInt32) = x := by
  have e1 := c_i2c x
  have e2 := c_i2c (x.toUInt32.toUInt16.toUInt32.toInt32)
  apply Int32.toInt_inj.mp
  show (x.toUInt32.toUInt16.toUInt32.toInt32).toUInt32.toUInt16.toUInt32.toInt32.toInt = _
  omega
theorem own_m16 (x : Int32) : ∃ n : Nat, n < 65536 ∧ (x &&& (65535 : Int32)).toInt = (n : Int) := by
  have h := c_mask x 65535 16 (by decide) (by decide)
  have h1 := Int.emod_nonneg x.toInt (b := 65536) (by decide)
  have h2 := Int.emod_lt_of_pos x.toInt (b := 65536) (by decide)
  exact ⟨(x.toInt % 65536).toNat, by omega, by rw [h]; show x.toInt % 65536 = _; omega⟩
theorem own_sh6 {x : Int32} {n : Nat} (hx : x.toInt = (n : Int)) (hn : n < 65536) : ((x.toUInt32 >>> ((6 : Int32) &&& 31).toUInt32).toInt32).toInt = ((n / 64 : Nat) : Int) := by
  rw [c_iushr x 6 6 (by decide) (by decide), hx]
  have : ((2 ^ 6 : Nat) : Int) = 64 := rfl
  omega
theorem own_and63 {x : Int32} {n : Nat} (hx : x.toInt = (n : Int)) : x &&& 63 = Int32.ofNat (n % 64) := by
  apply Int32.toInt_inj.mp
  rw [c_mask x 63 6 (by decide) (by decide), hx, Int32.toInt_ofNat_of_lt (by omega)]
  show (n : Int) % 64 = _
  omega
theorem own_xor63 (x : Int32) : (x ^^^ (-1 : Int32)) &&& 63 = (x &&& 63) ^^^ 63 := by
  apply Int32.toBitVec_inj.mp
  show (x.toBitVec ^^^ (-1#32)) &&& 63#32 = (x.toBitVec &&& 63#32) ^^^ 63#32
  generalize x.toBitVec = y
  apply BitVec.eq_of_getLsbD_eq
  intro i hi
  simp only [BitVec.getLsbD_and, BitVec.getLsbD_xor]
  have h : ∀ k : Fin 32, (-1#32).getLsbD k.val = true := by decide
  rw [h ⟨i, hi⟩]
  cases y.getLsbD i <;> cases (63#32).getLsbD i <;> rfl
/-- bit v of the words -/
def bt (W : Nat → Int64) (v : Nat) : Bool := (W (v / 64)).toBitVec.getLsbD (v % 64)
theorem own_from : ∀ k i : Fin 64, ((-1 : Int64) <<< (Int32.ofNat k.val).toInt64).toBitVec.getLsbD i.val = decide (k.val ≤ i.val) := by decide +kernel
theorem own_to : ∀ k i : Fin 64, (((-1 : Int64).toUInt64 >>> (Int32.ofNat k.val ^^^ 63).toInt64.toUInt64).toInt64).toBitVec.getLsbD i.val = decide (i.val ≤ k.val) := by decide +kernel
theorem own_one : ∀ k i : Fin 64, ((1 : Int64) <<< (Int32.ofNat k.val &&& 0x3f).toInt64).toBitVec.getLsbD i.val = decide (i.val = k.val) := by decide +kernel
theorem own_neg : ∀ i : Fin 64, (-1 : Int64).toBitVec.getLsbD i.val = true := by decide +kernel
theorem own_zero : ∀ i : Fin 64, (0 : Int64).toBitVec.getLsbD i.val = false := by decide +kernel
def own_fr (x : Int32) : Int64 := (-1 : Int64) <<< (x &&& 0x3f).toInt64
def own_tl (x : Int32) : Int64 := ((-1 : Int64).toUInt64 >>> ((x ^^^ (-1 : Int32)) &&& 0x3f).toInt64.toUInt64).toInt64
theorem own_fr_bit {x : Int32} {n : Nat} (hx : x.toInt = (n : Int)) (i : Nat) (hi : i < 64) : (own_fr x).toBitVec.getLsbD i = decide (n % 64 ≤ i) := by
  have h : own_fr x = (-1 : Int64) <<< (Int32.ofNat (n % 64)).toInt64 := congrArg (fun z : Int32 => (-1 : Int64) <<< z.toInt64) (own_and63 hx)
  rw [h]; exact own_from ⟨n % 64, Nat.mod_lt _ (by decide)⟩ ⟨i, hi⟩
theorem own_tl_bit {x : Int32} {n : Nat} (hx : x.toInt = (n : Int)) (i : Nat) (hi : i < 64) : (own_tl x).toBitVec.getLsbD i = decide (i ≤ n % 64) := by
  have h : own_tl x = ((-1 : Int64).toUInt64 >>> (Int32.ofNat (n % 64) ^^^ 63).toInt64.toUInt64).toInt64 := congrArg (fun z : Int32 => ((-1 : Int64).toUInt64 >>> z.toInt64.toUInt64).toInt64) ((own_xor63 x).trans (by rw [own_and63 hx]))
  rw [h]; exact own_to ⟨n % 64, Nat.mod_lt _ (by decide)⟩ ⟨i, hi⟩
theorem own_bor (x y : Int64) (i : Nat) : (x ||| y).toBitVec.getLsbD i = (x.toBitVec.getLsbD i || y.toBitVec.getLsbD i) := by
  show (x.toBitVec ||| y.toBitVec).getLsbD i = _
  exact BitVec.getLsbD_or
theorem own_band (x y : Int64) (i : Nat) : (x &&& y).toBitVec.getLsbD i = (x.toBitVec.getLsbD i && y.toBitVec.getLsbD i) := by
  show (x.toBitVec &&& y.toBitVec).getLsbD i = _
  exact BitVec.getLsbD_and
def own_set (W : Nat → Int64) (a : Nat) (x : Int64) (k : Nat) : Int64 := if k = a then x else W k
def own_fill (W : Nat → Int64) (lo hi k : Nat) : Int64 := if lo ≤ k ∧ k < hi then -1 else W k
theorem own_fill_next (W : Nat → Int64) (lo hi : Nat) (h : lo ≤ hi) (k : Nat) : (if k = hi then (-1 : Int64) else own_fill W lo hi k) = own_fill W lo (hi + 1) k := by
  simp only [own_fill]
  by_cases a : k = hi
  · rw [if_pos a, if_pos (by omega)]
  · rw [if_neg a]
    by_cases b : lo ≤ k ∧ k < hi
    · rw [if_pos b, if_pos (by omega)]
    · rw [if_neg b, if_neg (by omega)]
/-- one run within one word -/
theorem own_run1 {fv lv : Int32} {f l : Nat} (hf : fv.toInt = (f : Int)) (hl : lv.toInt = (l : Int)) (hw : f / 64 = l / 64) (W : Nat → Int64) (v : Nat) : bt (own_set W (f / 64) (W (f / 64) ||| (own_fr fv &&& own_tl lv))) v = (bt W v || decide (f ≤ v ∧ v ≤ l)) := by
  have hi := Nat.mod_lt v (y := 64) (by decide)
  simp only [bt, own_set]
  by_cases h : v / 64 = f / 64
  · rw [if_pos h, own_bor, own_band, own_fr_bit hf _ hi, own_tl_bit hl _ hi, h, ← Bool.decide_and]
    congr 1
    apply decide_eq_decide.mpr
    omega
  · rw [if_neg h, decide_eq_false (by omega : ¬ (f ≤ v ∧ v ≤ l)), Bool.or_false]
/-- one run over several words -/
theorem own_run2 {fv lv : Int32} {f l : Nat} (hf : fv.toInt = (f : Int)) (hl : lv.toInt = (l : Int)) (hw : f / 64 < l / 64) (W : Nat → Int64) (v : Nat) :
    bt (own_set (own_fill (own_set W (f / 64) (W (f / 64) ||| own_fr fv)) (f / 64 + 1) (l / 64)) (l / 64) (own_fill (own_set W (f / 64) (W (f / 64) ||| own_fr fv)) (f / 64 + 1) (l / 64) (l / 64) ||| own_tl lv)) v = (bt W v || decide (f ≤ v ∧ v ≤ l)) := by
  have hi := Nat.mod_lt v (y := 64) (by decide)
  have hz : own_fill (own_set W (f / 64) (W (f / 64) ||| own_fr fv)) (f / 64 + 1) (l / 64) (l / 64) = W (l / 64) := by
    simp only [own_fill, own_set]
    rw [if_neg (by omega), if_neg (by omega)]
  rw [hz]
  simp only [bt, own_set, own_fill]
  by_cases h1 : v / 64 = l / 64
  · rw [if_pos h1, own_bor, own_tl_bit hl _ hi, h1]
    congr 1
    apply decide_eq_decide.mpr
    omega
  · rw [if_neg h1]
    by_cases h2 : f / 64 + 1 ≤ v / 64 ∧ v / 64 < l / 64
    · rw [if_pos h2, own_neg ⟨v % 64, hi⟩, decide_eq_true (by omega : f ≤ v ∧ v ≤ l), Bool.or_true]
    · rw [if_neg h2]
      by_cases h3 : v / 64 = f / 64
      · rw [if_pos h3, own_bor, own_fr_bit hf _ hi, h3]
        congr 1
        apply decide_eq_decide.mpr
        omega
      · rw [if_neg h3, decide_eq_false (by omega : ¬ (f ≤ v ∧ v ≤ l)), Bool.or_false]
/-- what the first n runs hold -/
def inRuns (F L : Nat → Nat) : Nat → Nat → Bool
  | 0, _ => false
  | n + 1, v => inRuns F L n v || decide (F n ≤ v ∧ v ≤ L n)
theorem d1_0 : decode jdk_29_method_69_code 0 = .ok (.iload_n 0, 1) := by decide +kernel
theorem d1_1 : decode jdk_29_method_69_code 1 = .ok (.iload_n 1, 1) := by decide +kernel
theorem d1_2 : decode jdk_29_method_69_code 2 = .ok (.if_icmp .gt 7, 3) := by decide +kernel
theorem d1_5 : decode jdk_29_method_69_code 5 = .ok (.iload_n 0, 1) := by decide +kernel
theorem d1_6 : decode jdk_29_method_69_code 6 = .ok (.goto 4, 3) := by decide +kernel
theorem d1_9 : decode jdk_29_method_69_code 9 = .ok (.iload_n 1, 1) := by decide +kernel
theorem d1_10 : decode jdk_29_method_69_code 10 = .ok (.ireturn, 1) := by decide +kernel
theorem ef_1 (m : MethodId) (x0 : Int32) (x1 : Int32) : entryFrame m #[(.int x0), (.int x1)] 2 = mkF m 0 #[iv x0, iv x1] [] := by first | (simp [entryFrame, mkF, argsToLocals, Value.category]; done) | rfl
def Q1 (Z : State) (xx : Int32) (yy : Int32) (na : Nat) (nb : Nat) (h0 : Heap) (n0 : Nat) (v : Option Value) (h : Heap) (L : List Loc) : Prop := ∃ r : Int32, v = some (.int r) ∧ Fr n0 L ∧ h = h0 ∧ r.toInt = ((min na nb : Nat) : Int)
set_option maxRecDepth 65536 in
set_option maxHeartbeats 40000000 in
theorem rm1 (l : Launch) (Z : State) (a0 : Array Value) (hw : ∀ d ∈ tables_1, d.before a0 Z = true) (ws : List Jvm.Cond) (xx : Int32) (yy : Int32) (na : Nat) (nb : Nat) (h0 : Heap) (n0 : Nat) (Z0 : n0 ≤ h0.size) (hx0 : xx.toInt = (na : Int)) (hy0 : yy.toInt = (nb : Int)) :
    MetFree l (⟨"java/lang/Math", "min", "(II)I"⟩ : MethodName) (head1 (Jvm.Cond.code (⟨"java/lang/Math", "min", "(II)I"⟩ : MethodName) jdk_29_method_69_code 2 (some .int) :: ws) ({ frames := 0, cells := 0, slots := 0, locals := 0 } : Room)) (fun a U => a = #[(.int xx), (.int yy)] ∧ Z.Warmed39 U.vm ∧ U.heap = h0) (fun _ _ _ _ _ => True) (fun _ U o U' => ∃ v L, o = .returned v ∧ Q1 Z xx yy na nb h0 n0 v U'.heap L ∧ FrameEnd U o U' L ({ frames := 0, cells := 0, slots := 0, locals := 0 } : Room).cells ({ frames := 0, cells := 0, slots := 0, locals := 0 } : Room).slots) := by
  refine MetFree.of_bodySF (Jvm.Free.JP.mathPlain rfl (by decide +kernel)) hisR ?_
  intro p e s m args below meth c s₁ Bd hml0 hP hK
  obtain ⟨rfl, hZ, hh⟩ := hP
  have hx := Bd.exec
  have hby := Bd.bytes
  have hml : c.maxLocals = 2 := hml0
  have hown : s.vm.findClass "java/lang/Math" = some m.cls := findClass_of_methodNamed Bd.named
  have hnm := (name_of_methodNamed Bd.named Bd.method).1
  have X0 : Stand p l e ({ frames := 0, cells := 0, slots := 0, locals := 0 } : Room) s m #[(.int xx), (.int yy)] below meth c s₁ [] 0 0 := Stand.of_body Bd
  have e0 : s₁.heap = h0 := by rw [← hh, Bd.state]; rfl
  have N0 := Fr.nil n0
  show Ends p.tables e below (fun (s₂ : State) (o : Outcome) => ∃ v L, o = .returned v ∧ (Q1 Z xx yy na nb h0 n0) v s₂.heap L ∧ FrameEnd s o s₂ L ({ frames := 0, cells := 0, slots := 0, locals := 0 } : Room).cells ({ frames := 0, cells := 0, slots := 0, locals := 0 } : Room).slots) (s₁.setTop (entryFrame m #[(.int xx), (.int yy)] 2))
  refine Ends.any fun G hG => ?_
  refine Ends.go (fun t k => castTop (ef_1 m xx yy) k) ?_
  show Ends p.tables e below G (s₁.setTop (mkF m 0 #[iv xx, iv yy] []))
  refine Ends.go (fun _ => XS.iloadN X0.here hx rfl (hb hby d1_0) rfl) ?_
  show Ends p.tables e below G (s₁.setTop (mkF m 1 #[iv xx, iv yy] [(.int xx)]))
  refine Ends.go (fun _ => XS.iloadN X0.here hx rfl (hb hby d1_1) rfl) ?_
  show Ends p.tables e below G (s₁.setTop (mkF m 2 #[iv xx, iv yy] [(.int yy), (.int xx)]))
  by_cases q : nb < na
  · refine Ends.go (fun _ => XS.icmpYes X0.here hx rfl (pc0 := 2) (pc' := 9) rfl (hb hby d1_2) rfl (tlt ((own_lt hy0 hx0).mpr q : yy < xx)).2.2.1 (by decide) (by decide)) ?_
    show Ends p.tables e below G (s₁.setTop (mkF m 9 #[iv xx, iv yy] []))
    refine Ends.go (fun _ => XS.iloadN X0.here hx rfl (hb hby d1_9) rfl) ?_
    show Ends p.tables e below G (s₁.setTop (mkF m 10 #[iv xx, iv yy] [(.int yy)]))
    refine own_finI X0 hx Bd.returns Bd.notSynchronized (hb hby d1_10) (Q := (Q1 Z xx yy na nb h0 n0)) hG (by decide) (by decide) ?_
    show (Q1 Z xx yy na nb h0 n0) _ s₁.heap _
    rw [e0]
    exact ⟨_, rfl, N0, rfl, hy0.trans (by omega)⟩
  · refine Ends.go (fun _ => XS.icmpNo X0.here hx rfl (hb hby d1_2) rfl (flt (fun z => q ((own_lt hy0 hx0).mp z) : ¬ (yy < xx))).2.2.1) ?_
    show Ends p.tables e below G (s₁.setTop (mkF m 5 #[iv xx, iv yy] []))
    refine Ends.go (fun _ => XS.iloadN X0.here hx rfl (hb hby d1_5) rfl) ?_
    show Ends p.tables e below G (s₁.setTop (mkF m 6 #[iv xx, iv yy] [(.int xx)]))
    refine Ends.go (fun _ => XS.goto X0.here hx rfl (pc0 := 6) (pc' := 10) rfl (hb hby d1_6) (by decide) (by decide)) ?_
    show Ends p.tables e below G (s₁.setTop (mkF m 10 #[iv xx, iv yy] [(.int xx)]))
    refine own_finI X0 hx Bd.returns Bd.notSynchronized (hb hby d1_10) (Q := (Q1 Z xx yy na nb h0 n0)) hG (by decide) (by decide) ?_
    show (Q1 Z xx yy na nb h0 n0) _ s₁.heap _
    rw [e0]
    exact ⟨_, rfl, N0, rfl, hx0.trans (by omega)⟩
theorem d2_0 : decode jdk_29_method_65_code 0 = .ok (.iload_n 0, 1) := by decide +kernel
theorem d2_1 : decode jdk_29_method_65_code 1 = .ok (.iload_n 1, 1) := by decide +kernel
theorem d2_2 : decode jdk_29_method_65_code 2 = .ok (.if_icmp .lt 7, 3) := by decide +kernel
theorem d2_5 : decode jdk_29_method_65_code 5 = .ok (.iload_n 0, 1) := by decide +kernel
theorem d2_6 : decode jdk_29_method_65_code 6 = .ok (.goto 4, 3) := by decide +kernel
theorem d2_9 : decode jdk_29_method_65_code 9 = .ok (.iload_n 1, 1) := by decide +kernel
theorem d2_10 : decode jdk_29_method_65_code 10 = .ok (.ireturn, 1) := by decide +kernel
theorem ef_2 (m : MethodId) (x0 : Int32) (x1 : Int32) : entryFrame m #[(.int x0), (.int x1)] 2 = mkF m 0 #[iv x0, iv x1] [] := by first | (simp [entryFrame, mkF, argsToLocals, Value.category]; done) | rfl
def Q2 (Z : State) (xx : Int32) (yy : Int32) (na : Nat) (nb : Nat) (h0 : Heap) (n0 : Nat) (v : Option Value) (h : Heap) (L : List Loc) : Prop := ∃ r : Int32, v = some (.int r) ∧ Fr n0 L ∧ h = h0 ∧ r.toInt = ((max na nb : Nat) : Int)
set_option maxRecDepth 65536 in
set_option maxHeartbeats 40000000 in
theorem rm2 (l : Launch) (Z : State) (a0 : Array Value) (hw : ∀ d ∈ tables_1, d.before a0 Z = true) (ws : List Jvm.Cond) (xx : Int32) (yy : Int32) (na : Nat) (nb : Nat) (h0 : Heap) (n0 : Nat) (Z0 : n0 ≤ h0.size) (hx0 : xx.toInt = (na : Int)) (hy0 : yy.toInt = (nb : Int)) :
    MetFree l (⟨"java/lang/Math", "max", "(II)I"⟩ : MethodName) (head1 (Jvm.Cond.code (⟨"java/lang/Math", "max", "(II)I"⟩ : MethodName) jdk_29_method_65_code 2 (some .int) :: ws) ({ frames := 0, cells := 0, slots := 0, locals := 0 } : Room)) (fun a U => a = #[(.int xx), (.int yy)] ∧ Z.Warmed39 U.vm ∧ U.heap = h0) (fun _ _ _ _ _ => True) (fun _ U o U' => ∃ v L, o = .returned v ∧ Q2 Z xx yy na nb h0 n0 v U'.heap L ∧ FrameEnd U o U' L ({ frames := 0, cells := 0, slots := 0, locals := 0 } : Room).cells ({ frames := 0, cells := 0, slots := 0, locals := 0 } : Room).slots) := by
  refine MetFree.of_bodySF (Jvm.Free.JP.mathPlain rfl (by decide +kernel)) hisR ?_
  intro p e s m args below meth c s₁ Bd hml0 hP hK
  obtain ⟨rfl, hZ, hh⟩ := hP
  have hx := Bd.exec
  have hby := Bd.bytes
  have hml : c.maxLocals = 2 := hml0
  have hown : s.vm.findClass "java/lang/Math" = some m.cls := findClass_of_methodNamed Bd.named
  have hnm := (name_of_methodNamed Bd.named Bd.method).1
  have X0 : Stand p l e ({ frames := 0, cells := 0, slots := 0, locals := 0 } : Room) s m #[(.int xx), (.int yy)] below meth c s₁ [] 0 0 := Stand.of_body Bd
  have e0 : s₁.heap = h0 := by rw [← hh, Bd.state]; rfl
  have N0 := Fr.nil n0
  show Ends p.tables e below (fun (s₂ : State) (o : Outcome) => ∃ v L, o = .returned v ∧ (Q2 Z xx yy na nb h0 n0) v s₂.heap L ∧ FrameEnd s o s₂ L ({ frames := 0, cells := 0, slots := 0, locals := 0 } : Room).cells ({ frames := 0, cells := 0, slots := 0, locals := 0 } : Room).slots) (s₁.setTop (entryFrame m #[(.int xx), (.int yy)] 2))
  refine Ends.any fun G hG => ?_
  refine Ends.go (fun t k => castTop (ef_2 m xx yy) k) ?_
  show Ends p.tables e below G (s₁.setTop (mkF m 0 #[iv xx, iv yy] []))
  refine Ends.go (fun _ => XS.iloadN X0.here hx rfl (hb hby d2_0) rfl) ?_
  show Ends p.tables e below G (s₁.setTop (mkF m 1 #[iv xx, iv yy] [(.int xx)]))
  refine Ends.go (fun _ => XS.iloadN X0.here hx rfl (hb hby d2_1) rfl) ?_
  show Ends p.tables e below G (s₁.setTop (mkF m 2 #[iv xx, iv yy] [(.int yy), (.int xx)]))
  by_cases q : na < nb
  · refine Ends.go (fun _ => XS.icmpYes X0.here hx rfl (pc0 := 2) (pc' := 9) rfl (hb hby d2_2) rfl (tlt ((own_lt hx0 hy0).mpr q : xx < yy)).1 (by decide) (by decide)) ?_
    show Ends p.tables e below G (s₁.setTop (mkF m 9 #[iv xx, iv yy] []))
    refine Ends.go (fun _ => XS.iloadN X0.here hx rfl (hb hby d2_9) rfl) ?_
    show Ends p.tables e below G (s₁.setTop (mkF m 10 #[iv xx, iv yy] [(.int yy)]))
    refine own_finI X0 hx Bd.returns Bd.notSynchronized (hb hby d2_10) (Q := (Q2 Z xx yy na nb h0 n0)) hG (by decide) (by decide) ?_
    show (Q2 Z xx yy na nb h0 n0) _ s₁.heap _
    rw [e0]
    exact ⟨_, rfl, N0, rfl, hy0.trans (by omega)⟩
  · refine Ends.go (fun _ => XS.icmpNo X0.here hx rfl (hb hby d2_2) rfl (flt (fun z => q ((own_lt hx0 hy0).mp z) : ¬ (xx < yy))).1) ?_
    show Ends p.tables e below G (s₁.setTop (mkF m 5 #[iv xx, iv yy] []))
    refine Ends.go (fun _ => XS.iloadN X0.here hx rfl (hb hby d2_5) rfl) ?_
    show Ends p.tables e below G (s₁.setTop (mkF m 6 #[iv xx, iv yy] [(.int xx)]))
    refine Ends.go (fun _ => XS.goto X0.here hx rfl (pc0 := 6) (pc' := 10) rfl (hb hby d2_6) (by decide) (by decide)) ?_
    show Ends p.tables e below G (s₁.setTop (mkF m 10 #[iv xx, iv yy] [(.int xx)]))
    refine own_finI X0 hx Bd.returns Bd.notSynchronized (hb hby d2_10) (Q := (Q2 Z xx yy na nb h0 n0)) hG (by decide) (by decide) ?_
    show (Q2 Z xx yy na nb h0 n0) _ s₁.heap _
    rw [e0]
    exact ⟨_, rfl, N0, rfl, hx0.trans (by omega)⟩
theorem d3_0 : decode prog_105_method_28_code 0 = .ok (.iconst 0, 1) := by decide +kernel
theorem d3_1 : decode prog_105_method_28_code 1 = .ok (.istore_n 3, 1) := by decide +kernel
theorem d3_2 : decode prog_105_method_28_code 2 = .ok (.iload_n 3, 1) := by decide +kernel
theorem d3_3 : decode prog_105_method_28_code 3 = .ok (.iconst 2, 1) := by decide +kernel
theorem d3_4 : decode prog_105_method_28_code 4 = .ok (.iload_n 2, 1) := by decide +kernel
theorem d3_5 : decode prog_105_method_28_code 5 = .ok (.imul, 1) := by decide +kernel
theorem d3_6 : decode prog_105_method_28_code 6 = .ok (.if_icmp .ge 115, 3) := by decide +kernel
theorem d3_9 : decode prog_105_method_28_code 9 = .ok (.aload_n 1, 1) := by decide +kernel
theorem d3_10 : decode prog_105_method_28_code 10 = .ok (.iload_n 3, 1) := by decide +kernel
theorem d3_11 : decode prog_105_method_28_code 11 = .ok (.caload, 1) := by decide +kernel
theorem d3_12 : decode prog_105_method_28_code 12 = .ok (.istore 4, 2) := by decide +kernel
theorem d3_14 : decode prog_105_method_28_code 14 = .ok (.aload_n 1, 1) := by decide +kernel
theorem d3_15 : decode prog_105_method_28_code 15 = .ok (.iload_n 3, 1) := by decide +kernel
theorem d3_16 : decode prog_105_method_28_code 16 = .ok (.iconst 1, 1) := by decide +kernel
theorem d3_17 : decode prog_105_method_28_code 17 = .ok (.iadd, 1) := by decide +kernel
theorem d3_18 : decode prog_105_method_28_code 18 = .ok (.caload, 1) := by decide +kernel
theorem d3_19 : decode prog_105_method_28_code 19 = .ok (.istore 5, 2) := by decide +kernel
theorem d3_21 : decode prog_105_method_28_code 21 = .ok (.ldc2_w 17, 3) := by decide +kernel
theorem d3_24 : decode prog_105_method_28_code 24 = .ok (.iload 4, 2) := by decide +kernel
theorem d3_26 : decode prog_105_method_28_code 26 = .ok (.lshl, 1) := by decide +kernel
theorem d3_27 : decode prog_105_method_28_code 27 = .ok (.lstore 6, 2) := by decide +kernel
theorem d3_29 : decode prog_105_method_28_code 29 = .ok (.ldc2_w 17, 3) := by decide +kernel
theorem d3_32 : decode prog_105_method_28_code 32 = .ok (.iload 5, 2) := by decide +kernel
theorem d3_34 : decode prog_105_method_28_code 34 = .ok (.iconst (-1), 1) := by decide +kernel
theorem d3_35 : decode prog_105_method_28_code 35 = .ok (.ixor, 1) := by decide +kernel
theorem d3_36 : decode prog_105_method_28_code 36 = .ok (.lushr, 1) := by decide +kernel
theorem d3_37 : decode prog_105_method_28_code 37 = .ok (.lstore 8, 2) := by decide +kernel
theorem d3_39 : decode prog_105_method_28_code 39 = .ok (.iload 4, 2) := by decide +kernel
theorem d3_41 : decode prog_105_method_28_code 41 = .ok (.bipush 6, 2) := by decide +kernel
theorem d3_43 : decode prog_105_method_28_code 43 = .ok (.iushr, 1) := by decide +kernel
theorem d3_44 : decode prog_105_method_28_code 44 = .ok (.istore 10, 2) := by decide +kernel
theorem d3_46 : decode prog_105_method_28_code 46 = .ok (.iload 10, 2) := by decide +kernel
theorem d3_48 : decode prog_105_method_28_code 48 = .ok (.iload 5, 2) := by decide +kernel
theorem d3_50 : decode prog_105_method_28_code 50 = .ok (.bipush 6, 2) := by decide +kernel
theorem d3_52 : decode prog_105_method_28_code 52 = .ok (.iushr, 1) := by decide +kernel
theorem d3_53 : decode prog_105_method_28_code 53 = .ok (.if_icmp .ne 18, 3) := by decide +kernel
theorem d3_56 : decode prog_105_method_28_code 56 = .ok (.aload_n 0, 1) := by decide +kernel
theorem d3_57 : decode prog_105_method_28_code 57 = .ok (.iload 10, 2) := by decide +kernel
theorem d3_59 : decode prog_105_method_28_code 59 = .ok (.dup2, 1) := by decide +kernel
theorem d3_60 : decode prog_105_method_28_code 60 = .ok (.laload, 1) := by decide +kernel
theorem d3_61 : decode prog_105_method_28_code 61 = .ok (.lload 6, 2) := by decide +kernel
theorem d3_63 : decode prog_105_method_28_code 63 = .ok (.lload 8, 2) := by decide +kernel
theorem d3_65 : decode prog_105_method_28_code 65 = .ok (.land, 1) := by decide +kernel
theorem d3_66 : decode prog_105_method_28_code 66 = .ok (.lor, 1) := by decide +kernel
theorem d3_67 : decode prog_105_method_28_code 67 = .ok (.lastore, 1) := by decide +kernel
theorem d3_68 : decode prog_105_method_28_code 68 = .ok (.goto 47, 3) := by decide +kernel
theorem d3_71 : decode prog_105_method_28_code 71 = .ok (.aload_n 0, 1) := by decide +kernel
theorem d3_72 : decode prog_105_method_28_code 72 = .ok (.iload 10, 2) := by decide +kernel
theorem d3_74 : decode prog_105_method_28_code 74 = .ok (.dup2, 1) := by decide +kernel
theorem d3_75 : decode prog_105_method_28_code 75 = .ok (.laload, 1) := by decide +kernel
theorem d3_76 : decode prog_105_method_28_code 76 = .ok (.lload 6, 2) := by decide +kernel
theorem d3_78 : decode prog_105_method_28_code 78 = .ok (.lor, 1) := by decide +kernel
theorem d3_79 : decode prog_105_method_28_code 79 = .ok (.lastore, 1) := by decide +kernel
theorem d3_80 : decode prog_105_method_28_code 80 = .ok (.iinc 10 1, 3) := by decide +kernel
theorem d3_83 : decode prog_105_method_28_code 83 = .ok (.iload 10, 2) := by decide +kernel
theorem d3_85 : decode prog_105_method_28_code 85 = .ok (.iload 5, 2) := by decide +kernel
theorem d3_87 : decode prog_105_method_28_code 87 = .ok (.bipush 6, 2) := by decide +kernel
theorem d3_89 : decode prog_105_method_28_code 89 = .ok (.iushr, 1) := by decide +kernel
theorem d3_90 : decode prog_105_method_28_code 90 = .ok (.if_icmp .ge 16, 3) := by decide +kernel
theorem d3_93 : decode prog_105_method_28_code 93 = .ok (.aload_n 0, 1) := by decide +kernel
theorem d3_94 : decode prog_105_method_28_code 94 = .ok (.iload 10, 2) := by decide +kernel
theorem d3_96 : decode prog_105_method_28_code 96 = .ok (.ldc2_w 17, 3) := by decide +kernel
theorem d3_99 : decode prog_105_method_28_code 99 = .ok (.lastore, 1) := by decide +kernel
theorem d3_100 : decode prog_105_method_28_code 100 = .ok (.iinc 10 1, 3) := by decide +kernel
theorem d3_103 : decode prog_105_method_28_code 103 = .ok (.goto (-20), 3) := by decide +kernel
theorem d3_106 : decode prog_105_method_28_code 106 = .ok (.aload_n 0, 1) := by decide +kernel
theorem d3_107 : decode prog_105_method_28_code 107 = .ok (.iload 10, 2) := by decide +kernel
theorem d3_109 : decode prog_105_method_28_code 109 = .ok (.dup2, 1) := by decide +kernel
theorem d3_110 : decode prog_105_method_28_code 110 = .ok (.laload, 1) := by decide +kernel
theorem d3_111 : decode prog_105_method_28_code 111 = .ok (.lload 8, 2) := by decide +kernel
theorem d3_113 : decode prog_105_method_28_code 113 = .ok (.lor, 1) := by decide +kernel
theorem d3_114 : decode prog_105_method_28_code 114 = .ok (.lastore, 1) := by decide +kernel
theorem d3_115 : decode prog_105_method_28_code 115 = .ok (.iinc 3 2, 3) := by decide +kernel
theorem d3_118 : decode prog_105_method_28_code 118 = .ok (.goto (-116), 3) := by decide +kernel
theorem d3_121 : decode prog_105_method_28_code 121 = .ok (.return_, 1) := by decide +kernel
theorem pn_3 : plainName "com/example/bitstrata/bitstrata/bitmap/RunContainer" = true := by first | (simp [plainName, overriddenIn]; done) | decide +kernel
theorem ef_3 (m : MethodId) (x0 : Addr) (x1 : Addr) (x2 : Int32) : entryFrame m #[(.ref x0), (.ref x1), (.int x2)] 11 = mkF m 0 #[rv x0, rv x1, iv x2, un, un, un, un, un, un, un, un] [] := by first | (simp [entryFrame, mkF, argsToLocals, Value.category]; done) | rfl
def Q3 (Z : State) (wd : Addr) (bd : Addr) (rnv : Int32) (rn : Nat) (W : Nat → Int64) (B : Nat → Int32) (F : Nat → Nat) (E : Nat → Nat) (h0 : Heap) (n0 : Nat) (v : Option Value) (h : Heap) (L : List Loc) : Prop := v = none ∧ Fr n0 L ∧ Keep h0 h [wd] ∧ ∃ W' : Nat → Int64, AF Z h wd .long 1024 (fun k => .long (W' k)) ∧ ∀ v, bt W' v = (bt W v || inRuns F E rn v)
set_option maxRecDepth 65536 in
set_option maxHeartbeats 40000000 in
theorem rm3 (l : Launch) (Z : State) (a0 : Array Value) (hw : ∀ d ∈ tables_1, d.before a0 Z = true) (ws : List Jvm.Cond) (wd : Addr) (bd : Addr) (rnv : Int32) (rn : Nat) (W : Nat → Int64) (B : Nat → Int32) (F : Nat → Nat) (E : Nat → Nat) (h0 : Heap) (n0 : Nat) (Z0 : n0 ≤ h0.size) (V_w : AF Z h0 wd .long 1024 (fun k => .long (W k))) (V_b : AF Z h0 bd .char 4 (fun k => .int (B k))) (ne_bw : bd ≠ wd) (g_w : n0 ≤ wd) (hrn : rnv.toInt = (rn : Int)) (hrn2 : rn ≤ 2) (hB : ∀ r, r < 2 → (B (2 * r)).toInt = (F r : Int) ∧ (B (2 * r + 1)).toInt = (E r : Int) ∧ F r ≤ E r ∧ E r < 65536) :
    MetFree l (⟨"com/example/bitstrata/bitstrata/bitmap/RunContainer", "orInto", "([J[CI)V"⟩ : MethodName) (head1 (Jvm.Cond.code (⟨"com/example/bitstrata/bitstrata/bitmap/RunContainer", "orInto", "([J[CI)V"⟩ : MethodName) prog_105_method_28_code 11 none :: ws) ({ frames := 0, cells := 0, slots := 0, locals := 0 } : Room)) (fun a U => a = #[(.ref wd), (.ref bd), (.int rnv)] ∧ Z.Warmed39 U.vm ∧ U.heap = h0) (fun _ _ _ _ _ => True) (fun _ U o U' => ∃ v L, o = .returned v ∧ Q3 Z wd bd rnv rn W B F E h0 n0 v U'.heap L ∧ FrameEnd U o U' L ({ frames := 0, cells := 0, slots := 0, locals := 0 } : Room).cells ({ frames := 0, cells := 0, slots := 0, locals := 0 } : Room).slots) := by
  refine MetFree.of_bodySF (plainFor_of_name pn_3) hisR ?_
  intro p e s m args below meth c s₁ Bd hml0 hP hK
  obtain ⟨rfl, hZ, hh⟩ := hP
  have hx := Bd.exec
  have hby := Bd.bytes
  have hml : c.maxLocals = 11 := hml0
  have hown : s.vm.findClass "com/example/bitstrata/bitstrata/bitmap/RunContainer" = some m.cls := findClass_of_methodNamed Bd.named
  have hnm := (name_of_methodNamed Bd.named Bd.method).1
  have X0 : Stand p l e ({ frames := 0, cells := 0, slots := 0, locals := 0 } : Room) s m #[(.ref wd), (.ref bd), (.int rnv)] below meth c s₁ [] 0 0 := Stand.of_body Bd
  have e0 : s₁.heap = h0 := by rw [← hh, Bd.state]; rfl
  have N0 := Fr.nil n0
  show Ends p.tables e below (fun (s₂ : State) (o : Outcome) => ∃ v L, o = .returned v ∧ (Q3 Z wd bd rnv rn W B F E h0 n0) v s₂.heap L ∧ FrameEnd s o s₂ L ({ frames := 0, cells := 0, slots := 0, locals := 0 } : Room).cells ({ frames := 0, cells := 0, slots := 0, locals := 0 } : Room).slots) (s₁.setTop (entryFrame m #[(.ref wd), (.ref bd), (.int rnv)] 11))
  refine Ends.any fun G hG => ?_
  refine Ends.go (fun t k => castTop (ef_3 m wd bd rnv) k) ?_
  show Ends p.tables e below G (s₁.setTop (mkF m 0 #[rv wd, rv bd, iv rnv, un, un, un, un, un, un, un, un] []))
  have K0 := Keep.refl h0 [wd]
  refine Ends.go (fun _ => XS.iconst X0.here hx rfl (hb hby d3_0)) ?_
  show Ends p.tables e below G (s₁.setTop (mkF m 1 #[rv wd, rv bd, iv rnv, un, un, un, un, un, un, un, un] [(.int (0 : Int32))]))
  refine Ends.go (fun _ => XS.istoreN X0.here hx rfl (hb hby d3_1) rfl (l' := #[rv wd, rv bd, iv rnv, iv (0 : Int32), un, un, un, un, un, un, un]) rfl) ?_
  show Ends p.tables e below G (s₁.setTop (mkF m 2 #[rv wd, rv bd, iv rnv, iv (0 : Int32), un, un, un, un, un, un, un] []))
  have head2 : ∀ (T9 : State) (L9 : List Loc) (h9 : Heap) (W9 : Nat → Int64) (x4 x5 x10 : Int32) (y6 y8 : Int64), Stand p l e ({ frames := 0, cells := 0, slots := 0, locals := 0 } : Room) s m #[(.ref wd), (.ref bd), (.int rnv)] below meth c T9 L9 0 0 → T9.heap = h9 → Keep h0 h9 [wd] → Fr n0 L9 → n0 ≤ h9.size → AF Z h9 wd .long 1024 (fun k => .long (W9 k)) → AF Z h9 bd .char 4 (fun k => .int (B k)) → (∀ v, bt W9 v = (bt W v || inRuns F E 2 v)) → 2 ≤ rn → Ends p.tables e below G (T9.setTop (mkF m 2 #[rv wd, rv bd, iv rnv, iv (4 : Int32), iv x4, iv x5, .val (.long y6), .second, .val (.long y8), .second, iv x10] [])) := by
    intro T9 L9 h9 W9 x4 x5 x10 y6 y8 X9 e9 K9 N9 sz9 V9 U9 hW9 hi
    have hm : ((2 : Int32) * rnv).toInt = ((2 * rn : Nat) : Int) := by
      have q1 := c_imul 2 rnv
      have q2 := rng32 (2 * rnv)
      have q3 : (2 : Int32).toInt = 2 := rfl
      rw [q3] at q1
      omega
    refine Ends.go (fun _ => XS.iloadN X9.here hx rfl (hb hby d3_2) rfl) ?_
    show Ends p.tables e below G (T9.setTop (mkF m 3 #[rv wd, rv bd, iv rnv, iv (4 : Int32), iv x4, iv x5, .val (.long y6), .second, .val (.long y8), .second, iv x10] [(.int (4 : Int32))]))
    refine Ends.go (fun _ => XS.iconst X9.here hx rfl (hb hby d3_3)) ?_
    show Ends p.tables e below G (T9.setTop (mkF m 4 #[rv wd, rv bd, iv rnv, iv (4 : Int32), iv x4, iv x5, .val (.long y6), .second, .val (.long y8), .second, iv x10] [(.int (2 : Int32)), (.int (4 : Int32))]))
    refine Ends.go (fun _ => XS.iloadN X9.here hx rfl (hb hby d3_4) rfl) ?_
    show Ends p.tables e below G (T9.setTop (mkF m 5 #[rv wd, rv bd, iv rnv, iv (4 : Int32), iv x4, iv x5, .val (.long y6), .second, .val (.long y8), .second, iv x10] [(.int rnv), (.int (2 : Int32)), (.int (4 : Int32))]))
    refine Ends.go (fun _ => XS.imul X9.here hx rfl (hb hby d3_5) rfl) ?_
    show Ends p.tables e below G (T9.setTop (mkF m 6 #[rv wd, rv bd, iv rnv, iv (4 : Int32), iv x4, iv x5, .val (.long y6), .second, .val (.long y8), .second, iv x10] [(.int ((2 : Int32) * rnv)), (.int (4 : Int32))]))
    refine Ends.go (fun _ => XS.icmpYes X9.here hx rfl (pc0 := 6) (pc' := 121) rfl (hb hby d3_6) rfl (flt (fun z => absurd ((own_lt (a := 4) rfl hm).mp z) (by omega) : ¬ ((4 : Int32) < ((2 : Int32) * rnv)))).2.1 (by decide) (by decide)) ?_
    show Ends p.tables e below G (T9.setTop (mkF m 121 #[rv wd, rv bd, iv rnv, iv (4 : Int32), iv x4, iv x5, .val (.long y6), .second, .val (.long y8), .second, iv x10] []))
    refine own_finN X9 hx Bd.returns Bd.notSynchronized (hb hby d3_121) (Q := (Q3 Z wd bd rnv rn W B F E h0 n0)) hG (by decide) (by decide) ?_
    show (Q3 Z wd bd rnv rn W B F E h0 n0) _ T9.heap _
    rw [e9]
    exact ⟨rfl, N9, K9, W9, V9, by rw [show rn = 2 by omega]; exact hW9⟩
  have head1 : ∀ (T9 : State) (L9 : List Loc) (h9 : Heap) (W9 : Nat → Int64) (x4 x5 x10 : Int32) (y6 y8 : Int64), Stand p l e ({ frames := 0, cells := 0, slots := 0, locals := 0 } : Room) s m #[(.ref wd), (.ref bd), (.int rnv)] below meth c T9 L9 0 0 → T9.heap = h9 → Keep h0 h9 [wd] → Fr n0 L9 → n0 ≤ h9.size → AF Z h9 wd .long 1024 (fun k => .long (W9 k)) → AF Z h9 bd .char 4 (fun k => .int (B k)) → (∀ v, bt W9 v = (bt W v || inRuns F E 1 v)) → 1 ≤ rn → Ends p.tables e below G (T9.setTop (mkF m 2 #[rv wd, rv bd, iv rnv, iv (2 : Int32), iv x4, iv x5, .val (.long y6), .second, .val (.long y8), .second, iv x10] [])) := by
    intro T9 L9 h9 W9 x4 x5 x10 y6 y8 X9 e9 K9 N9 sz9 V9 U9 hW9 hi
    have hm : ((2 : Int32) * rnv).toInt = ((2 * rn : Nat) : Int) := by
      have q1 := c_imul 2 rnv
      have q2 := rng32 (2 * rnv)
      have q3 : (2 : Int32).toInt = 2 := rfl
      rw [q3] at q1
      omega
    refine Ends.go (fun _ => XS.iloadN X9.here hx rfl (hb hby d3_2) rfl) ?_
    show Ends p.tables e below G (T9.setTop (mkF m 3 #[rv wd, rv bd, iv rnv, iv (2 : Int32), iv x4, iv x5, .val (.long y6), .second, .val (.long y8), .second, iv x10] [(.int (2 : Int32))]))
    refine Ends.go (fun _ => XS.iconst X9.here hx rfl (hb hby d3_3)) ?_
    show Ends p.tables e below G (T9.setTop (mkF m 4 #[rv wd, rv bd, iv rnv, iv (2 : Int32), iv x4, iv x5, .val (.long y6), .second, .val (.long y8), .second, iv x10] [(.int (2 : Int32)), (.int (2 : Int32))]))
    refine Ends.go (fun _ => XS.iloadN X9.here hx rfl (hb hby d3_4) rfl) ?_
    show Ends p.tables e below G (T9.setTop (mkF m 5 #[rv wd, rv bd, iv rnv, iv (2 : Int32), iv x4, iv x5, .val (.long y6), .second, .val (.long y8), .second, iv x10] [(.int rnv), (.int (2 : Int32)), (.int (2 : Int32))]))
    refine Ends.go (fun _ => XS.imul X9.here hx rfl (hb hby d3_5) rfl) ?_
    show Ends p.tables e below G (T9.setTop (mkF m 6 #[rv wd, rv bd, iv rnv, iv (2 : Int32), iv x4, iv x5, .val (.long y6), .second, .val (.long y8), .second, iv x10] [(.int ((2 : Int32) * rnv)), (.int (2 : Int32))]))
    by_cases q0 : rn = 1
    · refine Ends.go (fun _ => XS.icmpYes X9.here hx rfl (pc0 := 6) (pc' := 121) rfl (hb hby d3_6) rfl (flt (fun z => absurd ((own_lt (a := 2) rfl hm).mp z) (by omega) : ¬ ((2 : Int32) < ((2 : Int32) * rnv)))).2.1 (by decide) (by decide)) ?_
      show Ends p.tables e below G (T9.setTop (mkF m 121 #[rv wd, rv bd, iv rnv, iv (2 : Int32), iv x4, iv x5, .val (.long y6), .second, .val (.long y8), .second, iv x10] []))
      refine own_finN X9 hx Bd.returns Bd.notSynchronized (hb hby d3_121) (Q := (Q3 Z wd bd rnv rn W B F E h0 n0)) hG (by decide) (by decide) ?_
      show (Q3 Z wd bd rnv rn W B F E h0 n0) _ T9.heap _
      rw [e9]
      exact ⟨rfl, N9, K9, W9, V9, by rw [show rn = 1 by omega]; exact hW9⟩
    · obtain ⟨hf, hl, hfl, hl6⟩ := hB 1 (by decide)
      have hf6 : F 1 < 65536 := by omega
      obtain ⟨fv, hfv⟩ : ∃ fv, B (2 * 1) = fv := ⟨_, rfl⟩
      obtain ⟨lv, hlv⟩ : ∃ lv, B (2 * 1 + 1) = lv := ⟨_, rfl⟩
      rw [hfv] at hf
      rw [hlv] at hl
      refine Ends.go (fun _ => XS.icmpNo X9.here hx rfl (hb hby d3_6) rfl (tlt ((own_lt (a := 2) rfl hm).mpr (by omega) : (2 : Int32) < ((2 : Int32) * rnv))).2.1) ?_
      show Ends p.tables e below G (T9.setTop (mkF m 9 #[rv wd, rv bd, iv rnv, iv (2 : Int32), iv x4, iv x5, .val (.long y6), .second, .val (.long y8), .second, iv x10] []))
      refine Ends.go (fun _ => XS.aloadN X9.here hx rfl (hb hby d3_9) rfl rfl) ?_
      show Ends p.tables e below G (T9.setTop (mkF m 10 #[rv wd, rv bd, iv rnv, iv (2 : Int32), iv x4, iv x5, .val (.long y6), .second, .val (.long y8), .second, iv x10] [(.ref bd)]))
      refine Ends.go (fun _ => XS.iloadN X9.here hx rfl (hb hby d3_10) rfl) ?_
      show Ends p.tables e below G (T9.setTop (mkF m 11 #[rv wd, rv bd, iv rnv, iv (2 : Int32), iv x4, iv x5, .val (.long y6), .second, .val (.long y8), .second, iv x10] [(.int (2 : Int32)), (.ref bd)]))
      refine Ends.go (fun _ => AF.ldC U9 X9 hx hZ e9 (j := (2 : Int32)) (i := 2) (by decide) (by decide) (v := (.int fv)) (congrArg Value.int hfv) (g := (mkF m 11 #[rv wd, rv bd, iv rnv, iv (2 : Int32), iv x4, iv x5, .val (.long y6), .second, .val (.long y8), .second, iv x10] [(.int (2 : Int32)), (.ref bd)])) rfl rfl (hb hby d3_11) _) ?_
      show Ends p.tables e below G (T9.setTop (mkF m 12 #[rv wd, rv bd, iv rnv, iv (2 : Int32), iv x4, iv x5, .val (.long y6), .second, .val (.long y8), .second, iv x10] [(.int fv)]))
      refine Ends.go (fun _ => XS.istore X9.here hx rfl (hb hby d3_12) rfl (l' := #[rv wd, rv bd, iv rnv, iv (2 : Int32), iv fv, iv x5, .val (.long y6), .second, .val (.long y8), .second, iv x10]) rfl) ?_
      show Ends p.tables e below G (T9.setTop (mkF m 14 #[rv wd, rv bd, iv rnv, iv (2 : Int32), iv fv, iv x5, .val (.long y6), .second, .val (.long y8), .second, iv x10] []))
      refine Ends.go (fun _ => XS.aloadN X9.here hx rfl (hb hby d3_14) rfl rfl) ?_
      show Ends p.tables e below G (T9.setTop (mkF m 15 #[rv wd, rv bd, iv rnv, iv (2 : Int32), iv fv, iv x5, .val (.long y6), .second, .val (.long y8), .second, iv x10] [(.ref bd)]))
      refine Ends.go (fun _ => XS.iloadN X9.here hx rfl (hb hby d3_15) rfl) ?_
      show Ends p.tables e below G (T9.setTop (mkF m 16 #[rv wd, rv bd, iv rnv, iv (2 : Int32), iv fv, iv x5, .val (.long y6), .second, .val (.long y8), .second, iv x10] [(.int (2 : Int32)), (.ref bd)]))
      refine Ends.go (fun _ => XS.iconst X9.here hx rfl (hb hby d3_16)) ?_
      show Ends p.tables e below G (T9.setTop (mkF m 17 #[rv wd, rv bd, iv rnv, iv (2 : Int32), iv fv, iv x5, .val (.long y6), .second, .val (.long y8), .second, iv x10] [(.int (1 : Int32)), (.int (2 : Int32)), (.ref bd)]))
      refine Ends.go (fun _ => XS.iadd X9.here hx rfl (hb hby d3_17) rfl) ?_
      show Ends p.tables e below G (T9.setTop (mkF m 18 #[rv wd, rv bd, iv rnv, iv (2 : Int32), iv fv, iv x5, .val (.long y6), .second, .val (.long y8), .second, iv x10] [(.int ((2 : Int32) + (1 : Int32))), (.ref bd)]))
      refine Ends.go (fun _ => AF.ldC U9 X9 hx hZ e9 (j := ((2 : Int32) + (1 : Int32))) (i := 3) (by decide) (by decide) (v := (.int lv)) (congrArg Value.int hlv) (g := (mkF m 18 #[rv wd, rv bd, iv rnv, iv (2 : Int32), iv fv, iv x5, .val (.long y6), .second, .val (.long y8), .second, iv x10] [(.int ((2 : Int32) + (1 : Int32))), (.ref bd)])) rfl rfl (hb hby d3_18) _) ?_
      show Ends p.tables e below G (T9.setTop (mkF m 19 #[rv wd, rv bd, iv rnv, iv (2 : Int32), iv fv, iv x5, .val (.long y6), .second, .val (.long y8), .second, iv x10] [(.int lv)]))
      refine Ends.go (fun _ => XS.istore X9.here hx rfl (hb hby d3_19) rfl (l' := #[rv wd, rv bd, iv rnv, iv (2 : Int32), iv fv, iv lv, .val (.long y6), .second, .val (.long y8), .second, iv x10]) rfl) ?_
      show Ends p.tables e below G (T9.setTop (mkF m 21 #[rv wd, rv bd, iv rnv, iv (2 : Int32), iv fv, iv lv, .val (.long y6), .second, .val (.long y8), .second, iv x10] []))
      refine Ends.go (fun _ => X9.ldc2Long hx hown (mvT hZ (hw _ (List.mem_of_getElem? (i := 14) rfl))) (g := (mkF m 21 #[rv wd, rv bd, iv rnv, iv (2 : Int32), iv fv, iv lv, .val (.long y6), .second, .val (.long y8), .second, iv x10] [])) rfl (hb hby d3_21) _) ?_
      show Ends p.tables e below G (T9.setTop (mkF m 24 #[rv wd, rv bd, iv rnv, iv (2 : Int32), iv fv, iv lv, .val (.long y6), .second, .val (.long y8), .second, iv x10] [(.long (-1 : Int64))]))
      refine Ends.go (fun _ => XS.iload X9.here hx rfl (hb hby d3_24) rfl) ?_
      show Ends p.tables e below G (T9.setTop (mkF m 26 #[rv wd, rv bd, iv rnv, iv (2 : Int32), iv fv, iv lv, .val (.long y6), .second, .val (.long y8), .second, iv x10] [(.int fv), (.long (-1 : Int64))]))
      refine Ends.go (fun _ => XS.lshl X9.here hx rfl (hb hby d3_26) rfl) ?_
      show Ends p.tables e below G (T9.setTop (mkF m 27 #[rv wd, rv bd, iv rnv, iv (2 : Int32), iv fv, iv lv, .val (.long y6), .second, .val (.long y8), .second, iv x10] [(.long ((-1 : Int64) <<< (fv &&& 0x3f).toInt64))]))
      refine Ends.go (fun _ => XS.lstore X9.here hx rfl (hb hby d3_27) rfl (l' := #[rv wd, rv bd, iv rnv, iv (2 : Int32), iv fv, iv lv, .val (.long ((-1 : Int64) <<< (fv &&& 0x3f).toInt64)), .second, .val (.long y8), .second, iv x10]) rfl) ?_
      show Ends p.tables e below G (T9.setTop (mkF m 29 #[rv wd, rv bd, iv rnv, iv (2 : Int32), iv fv, iv lv, .val (.long ((-1 : Int64) <<< (fv &&& 0x3f).toInt64)), .second, .val (.long y8), .second, iv x10] []))
      show Ends p.tables e below G (T9.setTop (mkF m 29 #[rv wd, rv bd, iv rnv, iv (2 : Int32), iv fv, iv lv, .val (.long (own_fr fv)), .second, .val (.long y8), .second, iv x10] []))
      refine Ends.go (fun _ => X9.ldc2Long hx hown (mvT hZ (hw _ (List.mem_of_getElem? (i := 14) rfl))) (g := (mkF m 29 #[rv wd, rv bd, iv rnv, iv (2 : Int32), iv fv, iv lv, .val (.long (own_fr fv)), .second, .val (.long y8), .second, iv x10] [])) rfl (hb hby d3_29) _) ?_
      show Ends p.tables e below G (T9.setTop (mkF m 32 #[rv wd, rv bd, iv rnv, iv (2 : Int32), iv fv, iv lv, .val (.long (own_fr fv)), .second, .val (.long y8), .second, iv x10] [(.long (-1 : Int64))]))
      refine Ends.go (fun _ => XS.iload X9.here hx rfl (hb hby d3_32) rfl) ?_
      show Ends p.tables e below G (T9.setTop (mkF m 34 #[rv wd, rv bd, iv rnv, iv (2 : Int32), iv fv, iv lv, .val (.long (own_fr fv)), .second, .val (.long y8), .second, iv x10] [(.int lv), (.long (-1 : Int64))]))
      refine Ends.go (fun _ => XS.iconst X9.here hx rfl (hb hby d3_34)) ?_
      show Ends p.tables e below G (T9.setTop (mkF m 35 #[rv wd, rv bd, iv rnv, iv (2 : Int32), iv fv, iv lv, .val (.long (own_fr fv)), .second, .val (.long y8), .second, iv x10] [(.int (-1 : Int32)), (.int lv), (.long (-1 : Int64))]))
      refine Ends.go (fun _ => XS.ixor X9.here hx rfl (hb hby d3_35) rfl) ?_
      show Ends p.tables e below G (T9.setTop (mkF m 36 #[rv wd, rv bd, iv rnv, iv (2 : Int32), iv fv, iv lv, .val (.long (own_fr fv)), .second, .val (.long y8), .second, iv x10] [(.int (lv ^^^ (-1 : Int32))), (.long (-1 : Int64))]))
      refine Ends.go (fun _ => XS.lushr X9.here hx rfl (hb hby d3_36) rfl) ?_
      show Ends p.tables e below G (T9.setTop (mkF m 37 #[rv wd, rv bd, iv rnv, iv (2 : Int32), iv fv, iv lv, .val (.long (own_fr fv)), .second, .val (.long y8), .second, iv x10] [(.long (((-1 : Int64).toUInt64 >>> ((lv ^^^ (-1 : Int32)) &&& 0x3f).toInt64.toUInt64).toInt64))]))
      refine Ends.go (fun _ => XS.lstore X9.here hx rfl (hb hby d3_37) rfl (l' := #[rv wd, rv bd, iv rnv, iv (2 : Int32), iv fv, iv lv, .val (.long (own_fr fv)), .second, .val (.long (((-1 : Int64).toUInt64 >>> ((lv ^^^ (-1 : Int32)) &&& 0x3f).toInt64.toUInt64).toInt64)), .second, iv x10]) rfl) ?_
      show Ends p.tables e below G (T9.setTop (mkF m 39 #[rv wd, rv bd, iv rnv, iv (2 : Int32), iv fv, iv lv, .val (.long (own_fr fv)), .second, .val (.long (((-1 : Int64).toUInt64 >>> ((lv ^^^ (-1 : Int32)) &&& 0x3f).toInt64.toUInt64).toInt64)), .second, iv x10] []))
      show Ends p.tables e below G (T9.setTop (mkF m 39 #[rv wd, rv bd, iv rnv, iv (2 : Int32), iv fv, iv lv, .val (.long (own_fr fv)), .second, .val (.long (own_tl lv)), .second, iv x10] []))
      refine Ends.go (fun _ => XS.iload X9.here hx rfl (hb hby d3_39) rfl) ?_
      show Ends p.tables e below G (T9.setTop (mkF m 41 #[rv wd, rv bd, iv rnv, iv (2 : Int32), iv fv, iv lv, .val (.long (own_fr fv)), .second, .val (.long (own_tl lv)), .second, iv x10] [(.int fv)]))
      refine Ends.go (fun _ => XS.bipush X9.here hx rfl (hb hby d3_41)) ?_
      show Ends p.tables e below G (T9.setTop (mkF m 43 #[rv wd, rv bd, iv rnv, iv (2 : Int32), iv fv, iv lv, .val (.long (own_fr fv)), .second, .val (.long (own_tl lv)), .second, iv x10] [(.int (6 : Int32)), (.int fv)]))
      refine Ends.go (fun _ => XS.iushr X9.here hx rfl (hb hby d3_43) rfl) ?_
      show Ends p.tables e below G (T9.setTop (mkF m 44 #[rv wd, rv bd, iv rnv, iv (2 : Int32), iv fv, iv lv, .val (.long (own_fr fv)), .second, .val (.long (own_tl lv)), .second, iv x10] [(.int ((fv.toUInt32 >>> ((6 : Int32) &&& 31).toUInt32).toInt32))]))
      refine Ends.go (fun _ => XS.istore X9.here hx rfl (hb hby d3_44) rfl (l' := #[rv wd, rv bd, iv rnv, iv (2 : Int32), iv fv, iv lv, .val (.long (own_fr fv)), .second, .val (.long (own_tl lv)), .second, iv ((fv.toUInt32 >>> ((6 : Int32) &&& 31).toUInt32).toInt32)]) rfl) ?_
      show Ends p.tables e below G (T9.setTop (mkF m 46 #[rv wd, rv bd, iv rnv, iv (2 : Int32), iv fv, iv lv, .val (.long (own_fr fv)), .second, .val (.long (own_tl lv)), .second, iv ((fv.toUInt32 >>> ((6 : Int32) &&& 31).toUInt32).toInt32)] []))
      have hwf := own_sh6 hf hf6
      have hwl := own_sh6 hl hl6
      generalize ((fv.toUInt32 >>> ((6 : Int32) &&& 31).toUInt32).toInt32) = wv at hwf ⊢
      show Ends p.tables e below G (T9.setTop (mkF m 46 #[rv wd, rv bd, iv rnv, iv (2 : Int32), iv fv, iv lv, .val (.long (own_fr fv)), .second, .val (.long (own_tl lv)), .second, iv wv] []))
      refine Ends.go (fun _ => XS.iload X9.here hx rfl (hb hby d3_46) rfl) ?_
      show Ends p.tables e below G (T9.setTop (mkF m 48 #[rv wd, rv bd, iv rnv, iv (2 : Int32), iv fv, iv lv, .val (.long (own_fr fv)), .second, .val (.long (own_tl lv)), .second, iv wv] [(.int wv)]))
      refine Ends.go (fun _ => XS.iload X9.here hx rfl (hb hby d3_48) rfl) ?_
      show Ends p.tables e below G (T9.setTop (mkF m 50 #[rv wd, rv bd, iv rnv, iv (2 : Int32), iv fv, iv lv, .val (.long (own_fr fv)), .second, .val (.long (own_tl lv)), .second, iv wv] [(.int lv), (.int wv)]))
      refine Ends.go (fun _ => XS.bipush X9.here hx rfl (hb hby d3_50)) ?_
      show Ends p.tables e below G (T9.setTop (mkF m 52 #[rv wd, rv bd, iv rnv, iv (2 : Int32), iv fv, iv lv, .val (.long (own_fr fv)), .second, .val (.long (own_tl lv)), .second, iv wv] [(.int (6 : Int32)), (.int lv), (.int wv)]))
      refine Ends.go (fun _ => XS.iushr X9.here hx rfl (hb hby d3_52) rfl) ?_
      show Ends p.tables e below G (T9.setTop (mkF m 53 #[rv wd, rv bd, iv rnv, iv (2 : Int32), iv fv, iv lv, .val (.long (own_fr fv)), .second, .val (.long (own_tl lv)), .second, iv wv] [(.int ((lv.toUInt32 >>> ((6 : Int32) &&& 31).toUInt32).toInt32)), (.int wv)]))
      generalize ((lv.toUInt32 >>> ((6 : Int32) &&& 31).toUInt32).toInt32) = zv at hwl ⊢
      show Ends p.tables e below G (T9.setTop (mkF m 53 #[rv wd, rv bd, iv rnv, iv (2 : Int32), iv fv, iv lv, .val (.long (own_fr fv)), .second, .val (.long (own_tl lv)), .second, iv wv] [(.int zv), (.int wv)]))
      by_cases qw : F 1 / 64 = E 1 / 64
      · refine Ends.go (fun _ => XS.icmpNo X9.here hx rfl (hb hby d3_53) rfl (teq ((own_eqn hwf hwl).mpr qw : wv = zv)).2) ?_
        show Ends p.tables e below G (T9.setTop (mkF m 56 #[rv wd, rv bd, iv rnv, iv (2 : Int32), iv fv, iv lv, .val (.long (own_fr fv)), .second, .val (.long (own_tl lv)), .second, iv wv] []))
        refine Ends.go (fun _ => XS.aloadN X9.here hx rfl (hb hby d3_56) rfl rfl) ?_
        show Ends p.tables e below G (T9.setTop (mkF m 57 #[rv wd, rv bd, iv rnv, iv (2 : Int32), iv fv, iv lv, .val (.long (own_fr fv)), .second, .val (.long (own_tl lv)), .second, iv wv] [(.ref wd)]))
        refine Ends.go (fun _ => XS.iload X9.here hx rfl (hb hby d3_57) rfl) ?_
        show Ends p.tables e below G (T9.setTop (mkF m 59 #[rv wd, rv bd, iv rnv, iv (2 : Int32), iv fv, iv lv, .val (.long (own_fr fv)), .second, .val (.long (own_tl lv)), .second, iv wv] [(.int wv), (.ref wd)]))
        refine Ends.go (fun _ => XT.dup2 X9.here hx rfl (hb hby d3_59) rfl rfl rfl) ?_
        show Ends p.tables e below G (T9.setTop (mkF m 60 #[rv wd, rv bd, iv rnv, iv (2 : Int32), iv fv, iv lv, .val (.long (own_fr fv)), .second, .val (.long (own_tl lv)), .second, iv wv] [(.int wv), (.ref wd), (.int wv), (.ref wd)]))
        refine Ends.go (fun _ => AF.ldJ V9 X9 hx hZ e9 (j := wv) (i := (F 1 / 64)) hwf (by omega) (v := (.long (W9 (F 1 / 64)))) rfl (g := (mkF m 60 #[rv wd, rv bd, iv rnv, iv (2 : Int32), iv fv, iv lv, .val (.long (own_fr fv)), .second, .val (.long (own_tl lv)), .second, iv wv] [(.int wv), (.ref wd), (.int wv), (.ref wd)])) rfl rfl (hb hby d3_60) _) ?_
        show Ends p.tables e below G (T9.setTop (mkF m 61 #[rv wd, rv bd, iv rnv, iv (2 : Int32), iv fv, iv lv, .val (.long (own_fr fv)), .second, .val (.long (own_tl lv)), .second, iv wv] [(.long (W9 (F 1 / 64))), (.int wv), (.ref wd)]))
        refine Ends.go (fun _ => XS.lload X9.here hx rfl (hb hby d3_61) rfl) ?_
        show Ends p.tables e below G (T9.setTop (mkF m 63 #[rv wd, rv bd, iv rnv, iv (2 : Int32), iv fv, iv lv, .val (.long (own_fr fv)), .second, .val (.long (own_tl lv)), .second, iv wv] [(.long (own_fr fv)), (.long (W9 (F 1 / 64))), (.int wv), (.ref wd)]))
        refine Ends.go (fun _ => XS.lload X9.here hx rfl (hb hby d3_63) rfl) ?_
        show Ends p.tables e below G (T9.setTop (mkF m 65 #[rv wd, rv bd, iv rnv, iv (2 : Int32), iv fv, iv lv, .val (.long (own_fr fv)), .second, .val (.long (own_tl lv)), .second, iv wv] [(.long (own_tl lv)), (.long (own_fr fv)), (.long (W9 (F 1 / 64))), (.int wv), (.ref wd)]))
        refine Ends.go (fun _ => XS.land X9.here hx rfl (hb hby d3_65) rfl) ?_
        show Ends p.tables e below G (T9.setTop (mkF m 66 #[rv wd, rv bd, iv rnv, iv (2 : Int32), iv fv, iv lv, .val (.long (own_fr fv)), .second, .val (.long (own_tl lv)), .second, iv wv] [(.long ((own_fr fv) &&& (own_tl lv))), (.long (W9 (F 1 / 64))), (.int wv), (.ref wd)]))
        refine Ends.go (fun _ => XS.lor X9.here hx rfl (hb hby d3_66) rfl) ?_
        show Ends p.tables e below G (T9.setTop (mkF m 67 #[rv wd, rv bd, iv rnv, iv (2 : Int32), iv fv, iv lv, .val (.long (own_fr fv)), .second, .val (.long (own_tl lv)), .second, iv wv] [(.long ((W9 (F 1 / 64)) ||| ((own_fr fv) &&& (own_tl lv)))), (.int wv), (.ref wd)]))
        obtain ⟨T1, h1, X1, e1, W1, V1, st1⟩ := AF.stJ V9 X9 hx hZ e9 (j := wv) (i := (F 1 / 64)) hwf (by omega) (g := (mkF m 67 #[rv wd, rv bd, iv rnv, iv (2 : Int32), iv fv, iv lv, .val (.long (own_fr fv)), .second, .val (.long (own_tl lv)), .second, iv wv] [(.long ((W9 (F 1 / 64)) ||| ((own_fr fv) &&& (own_tl lv)))), (.int wv), (.ref wd)])) rfl rfl (hb hby d3_67)
        have f1_V_bd := AF.other U9 W1 ne_bw
        have sz1 := Nat.le_trans sz9 (Nat.le_of_eq W1.size.symm)
        have K1 := Keep.wr K9 W1 (Or.inl (List.mem_of_getElem? (i := 0) rfl))
        have N1 := Fr.snoc X1 N9 g_w
        refine Ends.go (fun _ => st1 _) ?_
        show Ends p.tables e below G (T1.setTop (mkF m 68 #[rv wd, rv bd, iv rnv, iv (2 : Int32), iv fv, iv lv, .val (.long (own_fr fv)), .second, .val (.long (own_tl lv)), .second, iv wv] []))
        refine Ends.go (fun _ => XS.goto X1.here hx rfl (pc0 := 68) (pc' := 115) rfl (hb hby d3_68) (by decide) (by decide)) ?_
        show Ends p.tables e below G (T1.setTop (mkF m 115 #[rv wd, rv bd, iv rnv, iv (2 : Int32), iv fv, iv lv, .val (.long (own_fr fv)), .second, .val (.long (own_tl lv)), .second, iv wv] []))
        refine Ends.go (fun _ => XS.iinc X1.here hx rfl (hb hby d3_115) rfl (l' := #[rv wd, rv bd, iv rnv, iv ((2 : Int32) + (2 : Int32)), iv fv, iv lv, .val (.long (own_fr fv)), .second, .val (.long (own_tl lv)), .second, iv wv]) rfl) ?_
        show Ends p.tables e below G (T1.setTop (mkF m 118 #[rv wd, rv bd, iv rnv, iv ((2 : Int32) + (2 : Int32)), iv fv, iv lv, .val (.long (own_fr fv)), .second, .val (.long (own_tl lv)), .second, iv wv] []))
        refine Ends.go (fun _ => XS.goto X1.here hx rfl (pc0 := 118) (pc' := 2) rfl (hb hby d3_118) (by decide) (by decide)) ?_
        show Ends p.tables e below G (T1.setTop (mkF m 2 #[rv wd, rv bd, iv rnv, iv ((2 : Int32) + (2 : Int32)), iv fv, iv lv, .val (.long (own_fr fv)), .second, .val (.long (own_tl lv)), .second, iv wv] []))
        exact head2 _ _ _ (own_set W9 (F 1 / 64) (W9 (F 1 / 64) ||| (own_fr fv &&& own_tl lv))) _ _ _ _ _ X1 e1 K1 N1 sz1 (AF.congr V1 (fun k hk => by simp only [own_set]; split <;> rfl)) f1_V_bd (fun v => (own_run1 hf hl qw W9 v).trans (by rw [hW9 v, Bool.or_assoc]; rfl)) (by omega)
      · refine Ends.go (fun _ => XS.icmpYes X9.here hx rfl (pc0 := 53) (pc' := 71) rfl (hb hby d3_53) rfl (feq (fun z => qw ((own_eqn hwf hwl).mp z) : ¬ (wv = zv))).2 (by decide) (by decide)) ?_
        show Ends p.tables e below G (T9.setTop (mkF m 71 #[rv wd, rv bd, iv rnv, iv (2 : Int32), iv fv, iv lv, .val (.long (own_fr fv)), .second, .val (.long (own_tl lv)), .second, iv wv] []))
        refine Ends.go (fun _ => XS.aloadN X9.here hx rfl (hb hby d3_71) rfl rfl) ?_
        show Ends p.tables e below G (T9.setTop (mkF m 72 #[rv wd, rv bd, iv rnv, iv (2 : Int32), iv fv, iv lv, .val (.long (own_fr fv)), .second, .val (.long (own_tl lv)), .second, iv wv] [(.ref wd)]))
        refine Ends.go (fun _ => XS.iload X9.here hx rfl (hb hby d3_72) rfl) ?_
        show Ends p.tables e below G (T9.setTop (mkF m 74 #[rv wd, rv bd, iv rnv, iv (2 : Int32), iv fv, iv lv, .val (.long (own_fr fv)), .second, .val (.long (own_tl lv)), .second, iv wv] [(.int wv), (.ref wd)]))
        refine Ends.go (fun _ => XT.dup2 X9.here hx rfl (hb hby d3_74) rfl rfl rfl) ?_
        show Ends p.tables e below G (T9.setTop (mkF m 75 #[rv wd, rv bd, iv rnv, iv (2 : Int32), iv fv, iv lv, .val (.long (own_fr fv)), .second, .val (.long (own_tl lv)), .second, iv wv] [(.int wv), (.ref wd), (.int wv), (.ref wd)]))
        refine Ends.go (fun _ => AF.ldJ V9 X9 hx hZ e9 (j := wv) (i := (F 1 / 64)) hwf (by omega) (v := (.long (W9 (F 1 / 64)))) rfl (g := (mkF m 75 #[rv wd, rv bd, iv rnv, iv (2 : Int32), iv fv, iv lv, .val (.long (own_fr fv)), .second, .val (.long (own_tl lv)), .second, iv wv] [(.int wv), (.ref wd), (.int wv), (.ref wd)])) rfl rfl (hb hby d3_75) _) ?_
        show Ends p.tables e below G (T9.setTop (mkF m 76 #[rv wd, rv bd, iv rnv, iv (2 : Int32), iv fv, iv lv, .val (.long (own_fr fv)), .second, .val (.long (own_tl lv)), .second, iv wv] [(.long (W9 (F 1 / 64))), (.int wv), (.ref wd)]))
        refine Ends.go (fun _ => XS.lload X9.here hx rfl (hb hby d3_76) rfl) ?_
        show Ends p.tables e below G (T9.setTop (mkF m 78 #[rv wd, rv bd, iv rnv, iv (2 : Int32), iv fv, iv lv, .val (.long (own_fr fv)), .second, .val (.long (own_tl lv)), .second, iv wv] [(.long (own_fr fv)), (.long (W9 (F 1 / 64))), (.int wv), (.ref wd)]))
        refine Ends.go (fun _ => XS.lor X9.here hx rfl (hb hby d3_78) rfl) ?_
        show Ends p.tables e below G (T9.setTop (mkF m 79 #[rv wd, rv bd, iv rnv, iv (2 : Int32), iv fv, iv lv, .val (.long (own_fr fv)), .second, .val (.long (own_tl lv)), .second, iv wv] [(.long ((W9 (F 1 / 64)) ||| (own_fr fv))), (.int wv), (.ref wd)]))
        obtain ⟨T2, h2, X2, e2, W2, V2, st2⟩ := AF.stJ V9 X9 hx hZ e9 (j := wv) (i := (F 1 / 64)) hwf (by omega) (g := (mkF m 79 #[rv wd, rv bd, iv rnv, iv (2 : Int32), iv fv, iv lv, .val (.long (own_fr fv)), .second, .val (.long (own_tl lv)), .second, iv wv] [(.long ((W9 (F 1 / 64)) ||| (own_fr fv))), (.int wv), (.ref wd)])) rfl rfl (hb hby d3_79)
        have f2_V_bd := AF.other U9 W2 ne_bw
        have sz2 := Nat.le_trans sz9 (Nat.le_of_eq W2.size.symm)
        have K2 := Keep.wr K9 W2 (Or.inl (List.mem_of_getElem? (i := 0) rfl))
        have N2 := Fr.snoc X2 N9 g_w
        refine Ends.go (fun _ => st2 _) ?_
        show Ends p.tables e below G (T2.setTop (mkF m 80 #[rv wd, rv bd, iv rnv, iv (2 : Int32), iv fv, iv lv, .val (.long (own_fr fv)), .second, .val (.long (own_tl lv)), .second, iv wv] []))
        refine Ends.go (fun _ => XS.iinc X2.here hx rfl (hb hby d3_80) rfl (l' := #[rv wd, rv bd, iv rnv, iv (2 : Int32), iv fv, iv lv, .val (.long (own_fr fv)), .second, .val (.long (own_tl lv)), .second, iv (wv + (1 : Int32))]) rfl) ?_
        show Ends p.tables e below G (T2.setTop (mkF m 83 #[rv wd, rv bd, iv rnv, iv (2 : Int32), iv fv, iv lv, .val (.long (own_fr fv)), .second, .val (.long (own_tl lv)), .second, iv (wv + (1 : Int32))] []))
        have hw1 := own_add hwf (b := 1) (y := 1) rfl (by omega)
        have hlt : F 1 / 64 < E 1 / 64 := by omega
        have fill : ∀ (k u : Nat) (uv : Int32) (T7 : State) (L7 : List Loc) (h7 : Heap), Stand p l e ({ frames := 0, cells := 0, slots := 0, locals := 0 } : Room) s m #[(.ref wd), (.ref bd), (.int rnv)] below meth c T7 L7 0 0 → T7.heap = h7 → Keep h0 h7 [wd] → Fr n0 L7 → n0 ≤ h7.size → AF Z h7 wd .long 1024 (fun k => .long (own_fill (own_set W9 (F 1 / 64) (W9 (F 1 / 64) ||| own_fr fv)) (F 1 / 64 + 1) u k)) → AF Z h7 bd .char 4 (fun k => .int (B k)) → uv.toInt = (u : Int) → F 1 / 64 + 1 ≤ u → u + k = E 1 / 64 → Ends p.tables e below G (T7.setTop (mkF m 83 #[rv wd, rv bd, iv rnv, iv (2 : Int32), iv fv, iv lv, .val (.long (own_fr fv)), .second, .val (.long (own_tl lv)), .second, iv uv] [])) := by
          intro k
          induction k with
          | zero =>
            intro u uv T7 L7 h7 X7 e7 K7 N7 sz7 V7 U7 hu hlo hk
            obtain rfl : u = E 1 / 64 := by omega
            refine Ends.go (fun _ => XS.iload X7.here hx rfl (hb hby d3_83) rfl) ?_
            show Ends p.tables e below G (T7.setTop (mkF m 85 #[rv wd, rv bd, iv rnv, iv (2 : Int32), iv fv, iv lv, .val (.long (own_fr fv)), .second, .val (.long (own_tl lv)), .second, iv uv] [(.int uv)]))
            refine Ends.go (fun _ => XS.iload X7.here hx rfl (hb hby d3_85) rfl) ?_
            show Ends p.tables e below G (T7.setTop (mkF m 87 #[rv wd, rv bd, iv rnv, iv (2 : Int32), iv fv, iv lv, .val (.long (own_fr fv)), .second, .val (.long (own_tl lv)), .second, iv uv] [(.int lv), (.int uv)]))
            refine Ends.go (fun _ => XS.bipush X7.here hx rfl (hb hby d3_87)) ?_
            show Ends p.tables e below G (T7.setTop (mkF m 89 #[rv wd, rv bd, iv rnv, iv (2 : Int32), iv fv, iv lv, .val (.long (own_fr fv)), .second, .val (.long (own_tl lv)), .second, iv uv] [(.int (6 : Int32)), (.int lv), (.int uv)]))
            refine Ends.go (fun _ => XS.iushr X7.here hx rfl (hb hby d3_89) rfl) ?_
            show Ends p.tables e below G (T7.setTop (mkF m 90 #[rv wd, rv bd, iv rnv, iv (2 : Int32), iv fv, iv lv, .val (.long (own_fr fv)), .second, .val (.long (own_tl lv)), .second, iv uv] [(.int ((lv.toUInt32 >>> ((6 : Int32) &&& 31).toUInt32).toInt32)), (.int uv)]))
            have hwl2 := own_sh6 hl hl6
            generalize ((lv.toUInt32 >>> ((6 : Int32) &&& 31).toUInt32).toInt32) = zw at hwl2 ⊢
            show Ends p.tables e below G (T7.setTop (mkF m 90 #[rv wd, rv bd, iv rnv, iv (2 : Int32), iv fv, iv lv, .val (.long (own_fr fv)), .second, .val (.long (own_tl lv)), .second, iv uv] [(.int zw), (.int uv)]))
            refine Ends.go (fun _ => XS.icmpYes X7.here hx rfl (pc0 := 90) (pc' := 106) rfl (hb hby d3_90) rfl (flt (fun z => absurd ((own_lt hu hwl2).mp z) (by omega) : ¬ (uv < zw))).2.1 (by decide) (by decide)) ?_
            show Ends p.tables e below G (T7.setTop (mkF m 106 #[rv wd, rv bd, iv rnv, iv (2 : Int32), iv fv, iv lv, .val (.long (own_fr fv)), .second, .val (.long (own_tl lv)), .second, iv uv] []))
            refine Ends.go (fun _ => XS.aloadN X7.here hx rfl (hb hby d3_106) rfl rfl) ?_
            show Ends p.tables e below G (T7.setTop (mkF m 107 #[rv wd, rv bd, iv rnv, iv (2 : Int32), iv fv, iv lv, .val (.long (own_fr fv)), .second, .val (.long (own_tl lv)), .second, iv uv] [(.ref wd)]))
            refine Ends.go (fun _ => XS.iload X7.here hx rfl (hb hby d3_107) rfl) ?_
            show Ends p.tables e below G (T7.setTop (mkF m 109 #[rv wd, rv bd, iv rnv, iv (2 : Int32), iv fv, iv lv, .val (.long (own_fr fv)), .second, .val (.long (own_tl lv)), .second, iv uv] [(.int uv), (.ref wd)]))
            refine Ends.go (fun _ => XT.dup2 X7.here hx rfl (hb hby d3_109) rfl rfl rfl) ?_
            show Ends p.tables e below G (T7.setTop (mkF m 110 #[rv wd, rv bd, iv rnv, iv (2 : Int32), iv fv, iv lv, .val (.long (own_fr fv)), .second, .val (.long (own_tl lv)), .second, iv uv] [(.int uv), (.ref wd), (.int uv), (.ref wd)]))
            refine Ends.go (fun _ => AF.ldJ V7 X7 hx hZ e7 (j := uv) (i := (E 1 / 64)) hu (by omega) (v := (.long (own_fill (own_set W9 (F 1 / 64) (W9 (F 1 / 64) ||| own_fr fv)) (F 1 / 64 + 1) (E 1 / 64) (E 1 / 64)))) rfl (g := (mkF m 110 #[rv wd, rv bd, iv rnv, iv (2 : Int32), iv fv, iv lv, .val (.long (own_fr fv)), .second, .val (.long (own_tl lv)), .second, iv uv] [(.int uv), (.ref wd), (.int uv), (.ref wd)])) rfl rfl (hb hby d3_110) _) ?_
            show Ends p.tables e below G (T7.setTop (mkF m 111 #[rv wd, rv bd, iv rnv, iv (2 : Int32), iv fv, iv lv, .val (.long (own_fr fv)), .second, .val (.long (own_tl lv)), .second, iv uv] [(.long (own_fill (own_set W9 (F 1 / 64) (W9 (F 1 / 64) ||| own_fr fv)) (F 1 / 64 + 1) (E 1 / 64) (E 1 / 64))), (.int uv), (.ref wd)]))
            refine Ends.go (fun _ => XS.lload X7.here hx rfl (hb hby d3_111) rfl) ?_
            show Ends p.tables e below G (T7.setTop (mkF m 113 #[rv wd, rv bd, iv rnv, iv (2 : Int32), iv fv, iv lv, .val (.long (own_fr fv)), .second, .val (.long (own_tl lv)), .second, iv uv] [(.long (own_tl lv)), (.long (own_fill (own_set W9 (F 1 / 64) (W9 (F 1 / 64) ||| own_fr fv)) (F 1 / 64 + 1) (E 1 / 64) (E 1 / 64))), (.int uv), (.ref wd)]))
            refine Ends.go (fun _ => XS.lor X7.here hx rfl (hb hby d3_113) rfl) ?_
            show Ends p.tables e below G (T7.setTop (mkF m 114 #[rv wd, rv bd, iv rnv, iv (2 : Int32), iv fv, iv lv, .val (.long (own_fr fv)), .second, .val (.long (own_tl lv)), .second, iv uv] [(.long ((own_fill (own_set W9 (F 1 / 64) (W9 (F 1 / 64) ||| own_fr fv)) (F 1 / 64 + 1) (E 1 / 64) (E 1 / 64)) ||| (own_tl lv))), (.int uv), (.ref wd)]))
            obtain ⟨T3, h3, X3, e3, W3, V3, st3⟩ := AF.stJ V7 X7 hx hZ e7 (j := uv) (i := (E 1 / 64)) hu (by omega) (g := (mkF m 114 #[rv wd, rv bd, iv rnv, iv (2 : Int32), iv fv, iv lv, .val (.long (own_fr fv)), .second, .val (.long (own_tl lv)), .second, iv uv] [(.long ((own_fill (own_set W9 (F 1 / 64) (W9 (F 1 / 64) ||| own_fr fv)) (F 1 / 64 + 1) (E 1 / 64) (E 1 / 64)) ||| (own_tl lv))), (.int uv), (.ref wd)])) rfl rfl (hb hby d3_114)
            have f3_V_bd := AF.other U7 W3 ne_bw
            have sz3 := Nat.le_trans sz7 (Nat.le_of_eq W3.size.symm)
            have K3 := Keep.wr K7 W3 (Or.inl (List.mem_of_getElem? (i := 0) rfl))
            have N3 := Fr.snoc X3 N7 g_w
            refine Ends.go (fun _ => st3 _) ?_
            show Ends p.tables e below G (T3.setTop (mkF m 115 #[rv wd, rv bd, iv rnv, iv (2 : Int32), iv fv, iv lv, .val (.long (own_fr fv)), .second, .val (.long (own_tl lv)), .second, iv uv] []))
            refine Ends.go (fun _ => XS.iinc X3.here hx rfl (hb hby d3_115) rfl (l' := #[rv wd, rv bd, iv rnv, iv ((2 : Int32) + (2 : Int32)), iv fv, iv lv, .val (.long (own_fr fv)), .second, .val (.long (own_tl lv)), .second, iv uv]) rfl) ?_
            show Ends p.tables e below G (T3.setTop (mkF m 118 #[rv wd, rv bd, iv rnv, iv ((2 : Int32) + (2 : Int32)), iv fv, iv lv, .val (.long (own_fr fv)), .second, .val (.long (own_tl lv)), .second, iv uv] []))
            refine Ends.go (fun _ => XS.goto X3.here hx rfl (pc0 := 118) (pc' := 2) rfl (hb hby d3_118) (by decide) (by decide)) ?_
            show Ends p.tables e below G (T3.setTop (mkF m 2 #[rv wd, rv bd, iv rnv, iv ((2 : Int32) + (2 : Int32)), iv fv, iv lv, .val (.long (own_fr fv)), .second, .val (.long (own_tl lv)), .second, iv uv] []))
            exact head2 _ _ _ (own_set (own_fill (own_set W9 (F 1 / 64) (W9 (F 1 / 64) ||| own_fr fv)) (F 1 / 64 + 1) (E 1 / 64)) (E 1 / 64) (own_fill (own_set W9 (F 1 / 64) (W9 (F 1 / 64) ||| own_fr fv)) (F 1 / 64 + 1) (E 1 / 64) (E 1 / 64) ||| own_tl lv)) _ _ _ _ _ X3 e3 K3 N3 sz3 (AF.congr V3 (fun k hk => by simp only [own_set]; split <;> rfl)) f3_V_bd (fun v => (own_run2 hf hl hlt W9 v).trans (by rw [hW9 v, Bool.or_assoc]; rfl)) (by omega)
          | succ k ih =>
            intro u uv T7 L7 h7 X7 e7 K7 N7 sz7 V7 U7 hu hlo hk
            refine Ends.go (fun _ => XS.iload X7.here hx rfl (hb hby d3_83) rfl) ?_
            show Ends p.tables e below G (T7.setTop (mkF m 85 #[rv wd, rv bd, iv rnv, iv (2 : Int32), iv fv, iv lv, .val (.long (own_fr fv)), .second, .val (.long (own_tl lv)), .second, iv uv] [(.int uv)]))
            refine Ends.go (fun _ => XS.iload X7.here hx rfl (hb hby d3_85) rfl) ?_
            show Ends p.tables e below G (T7.setTop (mkF m 87 #[rv wd, rv bd, iv rnv, iv (2 : Int32), iv fv, iv lv, .val (.long (own_fr fv)), .second, .val (.long (own_tl lv)), .second, iv uv] [(.int lv), (.int uv)]))
            refine Ends.go (fun _ => XS.bipush X7.here hx rfl (hb hby d3_87)) ?_
            show Ends p.tables e below G (T7.setTop (mkF m 89 #[rv wd, rv bd, iv rnv, iv (2 : Int32), iv fv, iv lv, .val (.long (own_fr fv)), .second, .val (.long (own_tl lv)), .second, iv uv] [(.int (6 : Int32)), (.int lv), (.int uv)]))
            refine Ends.go (fun _ => XS.iushr X7.here hx rfl (hb hby d3_89) rfl) ?_
            show Ends p.tables e below G (T7.setTop (mkF m 90 #[rv wd, rv bd, iv rnv, iv (2 : Int32), iv fv, iv lv, .val (.long (own_fr fv)), .second, .val (.long (own_tl lv)), .second, iv uv] [(.int ((lv.toUInt32 >>> ((6 : Int32) &&& 31).toUInt32).toInt32)), (.int uv)]))
            have hwl2 := own_sh6 hl hl6
            generalize ((lv.toUInt32 >>> ((6 : Int32) &&& 31).toUInt32).toInt32) = zw at hwl2 ⊢
            show Ends p.tables e below G (T7.setTop (mkF m 90 #[rv wd, rv bd, iv rnv, iv (2 : Int32), iv fv, iv lv, .val (.long (own_fr fv)), .second, .val (.long (own_tl lv)), .second, iv uv] [(.int zw), (.int uv)]))
            refine Ends.go (fun _ => XS.icmpNo X7.here hx rfl (hb hby d3_90) rfl (tlt ((own_lt hu hwl2).mpr (by omega) : uv < zw)).2.1) ?_
            show Ends p.tables e below G (T7.setTop (mkF m 93 #[rv wd, rv bd, iv rnv, iv (2 : Int32), iv fv, iv lv, .val (.long (own_fr fv)), .second, .val (.long (own_tl lv)), .second, iv uv] []))
            refine Ends.go (fun _ => XS.aloadN X7.here hx rfl (hb hby d3_93) rfl rfl) ?_
            show Ends p.tables e below G (T7.setTop (mkF m 94 #[rv wd, rv bd, iv rnv, iv (2 : Int32), iv fv, iv lv, .val (.long (own_fr fv)), .second, .val (.long (own_tl lv)), .second, iv uv] [(.ref wd)]))
            refine Ends.go (fun _ => XS.iload X7.here hx rfl (hb hby d3_94) rfl) ?_
            show Ends p.tables e below G (T7.setTop (mkF m 96 #[rv wd, rv bd, iv rnv, iv (2 : Int32), iv fv, iv lv, .val (.long (own_fr fv)), .second, .val (.long (own_tl lv)), .second, iv uv] [(.int uv), (.ref wd)]))
            refine Ends.go (fun _ => X7.ldc2Long hx hown (mvT hZ (hw _ (List.mem_of_getElem? (i := 14) rfl))) (g := (mkF m 96 #[rv wd, rv bd, iv rnv, iv (2 : Int32), iv fv, iv lv, .val (.long (own_fr fv)), .second, .val (.long (own_tl lv)), .second, iv uv] [(.int uv), (.ref wd)])) rfl (hb hby d3_96) _) ?_
            show Ends p.tables e below G (T7.setTop (mkF m 99 #[rv wd, rv bd, iv rnv, iv (2 : Int32), iv fv, iv lv, .val (.long (own_fr fv)), .second, .val (.long (own_tl lv)), .second, iv uv] [(.long (-1 : Int64)), (.int uv), (.ref wd)]))
            obtain ⟨T4, h4, X4, e4, W4, V4, st4⟩ := AF.stJ V7 X7 hx hZ e7 (j := uv) (i := u) hu (by omega) (g := (mkF m 99 #[rv wd, rv bd, iv rnv, iv (2 : Int32), iv fv, iv lv, .val (.long (own_fr fv)), .second, .val (.long (own_tl lv)), .second, iv uv] [(.long (-1 : Int64)), (.int uv), (.ref wd)])) rfl rfl (hb hby d3_99)
            have f4_V_bd := AF.other U7 W4 ne_bw
            have sz4 := Nat.le_trans sz7 (Nat.le_of_eq W4.size.symm)
            have K4 := Keep.wr K7 W4 (Or.inl (List.mem_of_getElem? (i := 0) rfl))
            have N4 := Fr.snoc X4 N7 g_w
            refine Ends.go (fun _ => st4 _) ?_
            show Ends p.tables e below G (T4.setTop (mkF m 100 #[rv wd, rv bd, iv rnv, iv (2 : Int32), iv fv, iv lv, .val (.long (own_fr fv)), .second, .val (.long (own_tl lv)), .second, iv uv] []))
            refine Ends.go (fun _ => XS.iinc X4.here hx rfl (hb hby d3_100) rfl (l' := #[rv wd, rv bd, iv rnv, iv (2 : Int32), iv fv, iv lv, .val (.long (own_fr fv)), .second, .val (.long (own_tl lv)), .second, iv (uv + (1 : Int32))]) rfl) ?_
            show Ends p.tables e below G (T4.setTop (mkF m 103 #[rv wd, rv bd, iv rnv, iv (2 : Int32), iv fv, iv lv, .val (.long (own_fr fv)), .second, .val (.long (own_tl lv)), .second, iv (uv + (1 : Int32))] []))
            refine Ends.go (fun _ => XS.goto X4.here hx rfl (pc0 := 103) (pc' := 83) rfl (hb hby d3_103) (by decide) (by decide)) ?_
            show Ends p.tables e below G (T4.setTop (mkF m 83 #[rv wd, rv bd, iv rnv, iv (2 : Int32), iv fv, iv lv, .val (.long (own_fr fv)), .second, .val (.long (own_tl lv)), .second, iv (uv + (1 : Int32))] []))
            exact ih (u + 1) _ _ _ _ X4 e4 K4 N4 sz4 (AF.congr V4 (fun k hk => by rw [← own_fill_next _ _ _ hlo]; split <;> rfl)) f4_V_bd (own_add hu (b := 1) rfl (by omega)) (by omega) (by omega)
        exact fill (E 1 / 64 - (F 1 / 64 + 1)) _ _ _ _ _ X2 e2 K2 N2 sz2 (AF.congr V2 (fun k hk => by simp only [own_fill, own_set]; rw [if_neg (show ¬ (F 1 / 64 + 1 ≤ k ∧ k < F 1 / 64 + 1) by omega)]; split <;> rfl)) f2_V_bd hw1 (Nat.le_refl _) (by omega)
  have hm : ((2 : Int32) * rnv).toInt = ((2 * rn : Nat) : Int) := by
    have q1 := c_imul 2 rnv
    have q2 := rng32 (2 * rnv)
    have q3 : (2 : Int32).toInt = 2 := rfl
    rw [q3] at q1
    omega
  refine Ends.go (fun _ => XS.iloadN X0.here hx rfl (hb hby d3_2) rfl) ?_
  show Ends p.tables e below G (s₁.setTop (mkF m 3 #[rv wd, rv bd, iv rnv, iv (0 : Int32), un, un, un, un, un, un, un] [(.int (0 : Int32))]))
  refine Ends.go (fun _ => XS.iconst X0.here hx rfl (hb hby d3_3)) ?_
  show Ends p.tables e below G (s₁.setTop (mkF m 4 #[rv wd, rv bd, iv rnv, iv (0 : Int32), un, un, un, un, un, un, un] [(.int (2 : Int32)), (.int (0 : Int32))]))
  refine Ends.go (fun _ => XS.iloadN X0.here hx rfl (hb hby d3_4) rfl) ?_
  show Ends p.tables e below G (s₁.setTop (mkF m 5 #[rv wd, rv bd, iv rnv, iv (0 : Int32), un, un, un, un, un, un, un] [(.int rnv), (.int (2 : Int32)), (.int (0 : Int32))]))
  refine Ends.go (fun _ => XS.imul X0.here hx rfl (hb hby d3_5) rfl) ?_
  show Ends p.tables e below G (s₁.setTop (mkF m 6 #[rv wd, rv bd, iv rnv, iv (0 : Int32), un, un, un, un, un, un, un] [(.int ((2 : Int32) * rnv)), (.int (0 : Int32))]))
  by_cases q0 : rn = 0
  · refine Ends.go (fun _ => XS.icmpYes X0.here hx rfl (pc0 := 6) (pc' := 121) rfl (hb hby d3_6) rfl (flt (fun z => absurd ((own_lt (a := 0) rfl hm).mp z) (by omega) : ¬ ((0 : Int32) < ((2 : Int32) * rnv)))).2.1 (by decide) (by decide)) ?_
    show Ends p.tables e below G (s₁.setTop (mkF m 121 #[rv wd, rv bd, iv rnv, iv (0 : Int32), un, un, un, un, un, un, un] []))
    refine own_finN X0 hx Bd.returns Bd.notSynchronized (hb hby d3_121) (Q := (Q3 Z wd bd rnv rn W B F E h0 n0)) hG (by decide) (by decide) ?_
    show (Q3 Z wd bd rnv rn W B F E h0 n0) _ s₁.heap _
    rw [e0]
    exact ⟨rfl, N0, K0, W, V_w, by rw [show rn = 0 by omega]; exact (fun v => by simp [inRuns])⟩
  · obtain ⟨hf, hl, hfl, hl6⟩ := hB 0 (by decide)
    have hf6 : F 0 < 65536 := by omega
    obtain ⟨fv, hfv⟩ : ∃ fv, B (2 * 0) = fv := ⟨_, rfl⟩
    obtain ⟨lv, hlv⟩ : ∃ lv, B (2 * 0 + 1) = lv := ⟨_, rfl⟩
    rw [hfv] at hf
    rw [hlv] at hl
    refine Ends.go (fun _ => XS.icmpNo X0.here hx rfl (hb hby d3_6) rfl (tlt ((own_lt (a := 0) rfl hm).mpr (by omega) : (0 : Int32) < ((2 : Int32) * rnv))).2.1) ?_
    show Ends p.tables e below G (s₁.setTop (mkF m 9 #[rv wd, rv bd, iv rnv, iv (0 : Int32), un, un, un, un, un, un, un] []))
    refine Ends.go (fun _ => XS.aloadN X0.here hx rfl (hb hby d3_9) rfl rfl) ?_
    show Ends p.tables e below G (s₁.setTop (mkF m 10 #[rv wd, rv bd, iv rnv, iv (0 : Int32), un, un, un, un, un, un, un] [(.ref bd)]))
    refine Ends.go (fun _ => XS.iloadN X0.here hx rfl (hb hby d3_10) rfl) ?_
    show Ends p.tables e below G (s₁.setTop (mkF m 11 #[rv wd, rv bd, iv rnv, iv (0 : Int32), un, un, un, un, un, un, un] [(.int (0 : Int32)), (.ref bd)]))
    refine Ends.go (fun _ => AF.ldC V_b X0 hx hZ e0 (j := (0 : Int32)) (i := 0) (by decide) (by decide) (v := (.int fv)) (congrArg Value.int hfv) (g := (mkF m 11 #[rv wd, rv bd, iv rnv, iv (0 : Int32), un, un, un, un, un, un, un] [(.int (0 : Int32)), (.ref bd)])) rfl rfl (hb hby d3_11) _) ?_
    show Ends p.tables e below G (s₁.setTop (mkF m 12 #[rv wd, rv bd, iv rnv, iv (0 : Int32), un, un, un, un, un, un, un] [(.int fv)]))
    refine Ends.go (fun _ => XS.istore X0.here hx rfl (hb hby d3_12) rfl (l' := #[rv wd, rv bd, iv rnv, iv (0 : Int32), iv fv, un, un, un, un, un, un]) rfl) ?_
    show Ends p.tables e below G (s₁.setTop (mkF m 14 #[rv wd, rv bd, iv rnv, iv (0 : Int32), iv fv, un, un, un, un, un, un] []))
    refine Ends.go (fun _ => XS.aloadN X0.here hx rfl (hb hby d3_14) rfl rfl) ?_
    show Ends p.tables e below G (s₁.setTop (mkF m 15 #[rv wd, rv bd, iv rnv, iv (0 : Int32), iv fv, un, un, un, un, un, un] [(.ref bd)]))
    refine Ends.go (fun _ => XS.iloadN X0.here hx rfl (hb hby d3_15) rfl) ?_
    show Ends p.tables e below G (s₁.setTop (mkF m 16 #[rv wd, rv bd, iv rnv, iv (0 : Int32), iv fv, un, un, un, un, un, un] [(.int (0 : Int32)), (.ref bd)]))
    refine Ends.go (fun _ => XS.iconst X0.here hx rfl (hb hby d3_16)) ?_
    show Ends p.tables e below G (s₁.setTop (mkF m 17 #[rv wd, rv bd, iv rnv, iv (0 : Int32), iv fv, un, un, un, un, un, un] [(.int (1 : Int32)), (.int (0 : Int32)), (.ref bd)]))
    refine Ends.go (fun _ => XS.iadd X0.here hx rfl (hb hby d3_17) rfl) ?_
    show Ends p.tables e below G (s₁.setTop (mkF m 18 #[rv wd, rv bd, iv rnv, iv (0 : Int32), iv fv, un, un, un, un, un, un] [(.int ((0 : Int32) + (1 : Int32))), (.ref bd)]))
    refine Ends.go (fun _ => AF.ldC V_b X0 hx hZ e0 (j := ((0 : Int32) + (1 : Int32))) (i := 1) (by decide) (by decide) (v := (.int lv)) (congrArg Value.int hlv) (g := (mkF m 18 #[rv wd, rv bd, iv rnv, iv (0 : Int32), iv fv, un, un, un, un, un, un] [(.int ((0 : Int32) + (1 : Int32))), (.ref bd)])) rfl rfl (hb hby d3_18) _) ?_
    show Ends p.tables e below G (s₁.setTop (mkF m 19 #[rv wd, rv bd, iv rnv, iv (0 : Int32), iv fv, un, un, un, un, un, un] [(.int lv)]))
    refine Ends.go (fun _ => XS.istore X0.here hx rfl (hb hby d3_19) rfl (l' := #[rv wd, rv bd, iv rnv, iv (0 : Int32), iv fv, iv lv, un, un, un, un, un]) rfl) ?_
    show Ends p.tables e below G (s₁.setTop (mkF m 21 #[rv wd, rv bd, iv rnv, iv (0 : Int32), iv fv, iv lv, un, un, un, un, un] []))
    refine Ends.go (fun _ => X0.ldc2Long hx hown (mvT hZ (hw _ (List.mem_of_getElem? (i := 14) rfl))) (g := (mkF m 21 #[rv wd, rv bd, iv rnv, iv (0 : Int32), iv fv, iv lv, un, un, un, un, un] [])) rfl (hb hby d3_21) _) ?_
    show Ends p.tables e below G (s₁.setTop (mkF m 24 #[rv wd, rv bd, iv rnv, iv (0 : Int32), iv fv, iv lv, un, un, un, un, un] [(.long (-1 : Int64))]))
    refine Ends.go (fun _ => XS.iload X0.here hx rfl (hb hby d3_24) rfl) ?_
    show Ends p.tables e below G (s₁.setTop (mkF m 26 #[rv wd, rv bd, iv rnv, iv (0 : Int32), iv fv, iv lv, un, un, un, un, un] [(.int fv), (.long (-1 : Int64))]))
    refine Ends.go (fun _ => XS.lshl X0.here hx rfl (hb hby d3_26) rfl) ?_
    show Ends p.tables e below G (s₁.setTop (mkF m 27 #[rv wd, rv bd, iv rnv, iv (0 : Int32), iv fv, iv lv, un, un, un, un, un] [(.long ((-1 : Int64) <<< (fv &&& 0x3f).toInt64))]))
    refine Ends.go (fun _ => XS.lstore X0.here hx rfl (hb hby d3_27) rfl (l' := #[rv wd, rv bd, iv rnv, iv (0 : Int32), iv fv, iv lv, .val (.long ((-1 : Int64) <<< (fv &&& 0x3f).toInt64)), .second, un, un, un]) rfl) ?_
    show Ends p.tables e below G (s₁.setTop (mkF m 29 #[rv wd, rv bd, iv rnv, iv (0 : Int32), iv fv, iv lv, .val (.long ((-1 : Int64) <<< (fv &&& 0x3f).toInt64)), .second, un, un, un] []))
    show Ends p.tables e below G (s₁.setTop (mkF m 29 #[rv wd, rv bd, iv rnv, iv (0 : Int32), iv fv, iv lv, .val (.long (own_fr fv)), .second, un, un, un] []))
    refine Ends.go (fun _ => X0.ldc2Long hx hown (mvT hZ (hw _ (List.mem_of_getElem? (i := 14) rfl))) (g := (mkF m 29 #[rv wd, rv bd, iv rnv, iv (0 : Int32), iv fv, iv lv, .val (.long (own_fr fv)), .second, un, un, un] [])) rfl (hb hby d3_29) _) ?_
    show Ends p.tables e below G (s₁.setTop (mkF m 32 #[rv wd, rv bd, iv rnv, iv (0 : Int32), iv fv, iv lv, .val (.long (own_fr fv)), .second, un, un, un] [(.long (-1 : Int64))]))
    refine Ends.go (fun _ => XS.iload X0.here hx rfl (hb hby d3_32) rfl) ?_
    show Ends p.tables e below G (s₁.setTop (mkF m 34 #[rv wd, rv bd, iv rnv, iv (0 : Int32), iv fv, iv lv, .val (.long (own_fr fv)), .second, un, un, un] [(.int lv), (.long (-1 : Int64))]))
    refine Ends.go (fun _ => XS.iconst X0.here hx rfl (hb hby d3_34)) ?_
    show Ends p.tables e below G (s₁.setTop (mkF m 35 #[rv wd, rv bd, iv rnv, iv (0 : Int32), iv fv, iv lv, .val (.long (own_fr fv)), .second, un, un, un] [(.int (-1 : Int32)), (.int lv), (.long (-1 : Int64))]))
    refine Ends.go (fun _ => XS.ixor X0.here hx rfl (hb hby d3_35) rfl) ?_
    show Ends p.tables e below G (s₁.setTop (mkF m 36 #[rv wd, rv bd, iv rnv, iv (0 : Int32), iv fv, iv lv, .val (.long (own_fr fv)), .second, un, un, un] [(.int (lv ^^^ (-1 : Int32))), (.long (-1 : Int64))]))
    refine Ends.go (fun _ => XS.lushr X0.here hx rfl (hb hby d3_36) rfl) ?_
    show Ends p.tables e below G (s₁.setTop (mkF m 37 #[rv wd, rv bd, iv rnv, iv (0 : Int32), iv fv, iv lv, .val (.long (own_fr fv)), .second, un, un, un] [(.long (((-1 : Int64).toUInt64 >>> ((lv ^^^ (-1 : Int32)) &&& 0x3f).toInt64.toUInt64).toInt64))]))
    refine Ends.go (fun _ => XS.lstore X0.here hx rfl (hb hby d3_37) rfl (l' := #[rv wd, rv bd, iv rnv, iv (0 : Int32), iv fv, iv lv, .val (.long (own_fr fv)), .second, .val (.long (((-1 : Int64).toUInt64 >>> ((lv ^^^ (-1 : Int32)) &&& 0x3f).toInt64.toUInt64).toInt64)), .second, un]) rfl) ?_
    show Ends p.tables e below G (s₁.setTop (mkF m 39 #[rv wd, rv bd, iv rnv, iv (0 : Int32), iv fv, iv lv, .val (.long (own_fr fv)), .second, .val (.long (((-1 : Int64).toUInt64 >>> ((lv ^^^ (-1 : Int32)) &&& 0x3f).toInt64.toUInt64).toInt64)), .second, un] []))
    show Ends p.tables e below G (s₁.setTop (mkF m 39 #[rv wd, rv bd, iv rnv, iv (0 : Int32), iv fv, iv lv, .val (.long (own_fr fv)), .second, .val (.long (own_tl lv)), .second, un] []))
    refine Ends.go (fun _ => XS.iload X0.here hx rfl (hb hby d3_39) rfl) ?_
    show Ends p.tables e below G (s₁.setTop (mkF m 41 #[rv wd, rv bd, iv rnv, iv (0 : Int32), iv fv, iv lv, .val (.long (own_fr fv)), .second, .val (.long (own_tl lv)), .second, un] [(.int fv)]))
    refine Ends.go (fun _ => XS.bipush X0.here hx rfl (hb hby d3_41)) ?_
    show Ends p.tables e below G (s₁.setTop (mkF m 43 #[rv wd, rv bd, iv rnv, iv (0 : Int32), iv fv, iv lv, .val (.long (own_fr fv)), .second, .val (.long (own_tl lv)), .second, un] [(.int (6 : Int32)), (.int fv)]))
    refine Ends.go (fun _ => XS.iushr X0.here hx rfl (hb hby d3_43) rfl) ?_
    show Ends p.tables e below G (s₁.setTop (mkF m 44 #[rv wd, rv bd, iv rnv, iv (0 : Int32), iv fv, iv lv, .val (.long (own_fr fv)), .second, .val (.long (own_tl lv)), .second, un] [(.int ((fv.toUInt32 >>> ((6 : Int32) &&& 31).toUInt32).toInt32))]))
    refine Ends.go (fun _ => XS.istore X0.here hx rfl (hb hby d3_44) rfl (l' := #[rv wd, rv bd, iv rnv, iv (0 : Int32), iv fv, iv lv, .val (.long (own_fr fv)), .second, .val (.long (own_tl lv)), .second, iv ((fv.toUInt32 >>> ((6 : Int32) &&& 31).toUInt32).toInt32)]) rfl) ?_
    show Ends p.tables e below G (s₁.setTop (mkF m 46 #[rv wd, rv bd, iv rnv, iv (0 : Int32), iv fv, iv lv, .val (.long (own_fr fv)), .second, .val (.long (own_tl lv)), .second, iv ((fv.toUInt32 >>> ((6 : Int32) &&& 31).toUInt32).toInt32)] []))
    have hwf := own_sh6 hf hf6
    have hwl := own_sh6 hl hl6
    generalize ((fv.toUInt32 >>> ((6 : Int32) &&& 31).toUInt32).toInt32) = wv at hwf ⊢
    show Ends p.tables e below G (s₁.setTop (mkF m 46 #[rv wd, rv bd, iv rnv, iv (0 : Int32), iv fv, iv lv, .val (.long (own_fr fv)), .second, .val (.long (own_tl lv)), .second, iv wv] []))
    refine Ends.go (fun _ => XS.iload X0.here hx rfl (hb hby d3_46) rfl) ?_
    show Ends p.tables e below G (s₁.setTop (mkF m 48 #[rv wd, rv bd, iv rnv, iv (0 : Int32), iv fv, iv lv, .val (.long (own_fr fv)), .second, .val (.long (own_tl lv)), .second, iv wv] [(.int wv)]))
    refine Ends.go (fun _ => XS.iload X0.here hx rfl (hb hby d3_48) rfl) ?_
    show Ends p.tables e below G (s₁.setTop (mkF m 50 #[rv wd, rv bd, iv rnv, iv (0 : Int32), iv fv, iv lv, .val (.long (own_fr fv)), .second, .val (.long (own_tl lv)), .second, iv wv] [(.int lv), (.int wv)]))
    refine Ends.go (fun _ => XS.bipush X0.here hx rfl (hb hby d3_50)) ?_
    show Ends p.tables e below G (s₁.setTop (mkF m 52 #[rv wd, rv bd, iv rnv, iv (0 : Int32), iv fv, iv lv, .val (.long (own_fr fv)), .second, .val (.long (own_tl lv)), .second, iv wv] [(.int (6 : Int32)), (.int lv), (.int wv)]))
    refine Ends.go (fun _ => XS.iushr X0.here hx rfl (hb hby d3_52) rfl) ?_
    show Ends p.tables e below G (s₁.setTop (mkF m 53 #[rv wd, rv bd, iv rnv, iv (0 : Int32), iv fv, iv lv, .val (.long (own_fr fv)), .second, .val (.long (own_tl lv)), .second, iv wv] [(.int ((lv.toUInt32 >>> ((6 : Int32) &&& 31).toUInt32).toInt32)), (.int wv)]))
    generalize ((lv.toUInt32 >>> ((6 : Int32) &&& 31).toUInt32).toInt32) = zv at hwl ⊢
    show Ends p.tables e below G (s₁.setTop (mkF m 53 #[rv wd, rv bd, iv rnv, iv (0 : Int32), iv fv, iv lv, .val (.long (own_fr fv)), .second, .val (.long (own_tl lv)), .second, iv wv] [(.int zv), (.int wv)]))
    by_cases qw : F 0 / 64 = E 0 / 64
    · refine Ends.go (fun _ => XS.icmpNo X0.here hx rfl (hb hby d3_53) rfl (teq ((own_eqn hwf hwl).mpr qw : wv = zv)).2) ?_
      show Ends p.tables e below G (s₁.setTop (mkF m 56 #[rv wd, rv bd, iv rnv, iv (0 : Int32), iv fv, iv lv, .val (.long (own_fr fv)), .second, .val (.long (own_tl lv)), .second, iv wv] []))
      refine Ends.go (fun _ => XS.aloadN X0.here hx rfl (hb hby d3_56) rfl rfl) ?_
      show Ends p.tables e below G (s₁.setTop (mkF m 57 #[rv wd, rv bd, iv rnv, iv (0 : Int32), iv fv, iv lv, .val (.long (own_fr fv)), .second, .val (.long (own_tl lv)), .second, iv wv] [(.ref wd)]))
      refine Ends.go (fun _ => XS.iload X0.here hx rfl (hb hby d3_57) rfl) ?_
      show Ends p.tables e below G (s₁.setTop (mkF m 59 #[rv wd, rv bd, iv rnv, iv (0 : Int32), iv fv, iv lv, .val (.long (own_fr fv)), .second, .val (.long (own_tl lv)), .second, iv wv] [(.int wv), (.ref wd)]))
      refine Ends.go (fun _ => XT.dup2 X0.here hx rfl (hb hby d3_59) rfl rfl rfl) ?_
      show Ends p.tables e below G (s₁.setTop (mkF m 60 #[rv wd, rv bd, iv rnv, iv (0 : Int32), iv fv, iv lv, .val (.long (own_fr fv)), .second, .val (.long (own_tl lv)), .second, iv wv] [(.int wv), (.ref wd), (.int wv), (.ref wd)]))
      refine Ends.go (fun _ => AF.ldJ V_w X0 hx hZ e0 (j := wv) (i := (F 0 / 64)) hwf (by omega) (v := (.long (W (F 0 / 64)))) rfl (g := (mkF m 60 #[rv wd, rv bd, iv rnv, iv (0 : Int32), iv fv, iv lv, .val (.long (own_fr fv)), .second, .val (.long (own_tl lv)), .second, iv wv] [(.int wv), (.ref wd), (.int wv), (.ref wd)])) rfl rfl (hb hby d3_60) _) ?_
      show Ends p.tables e below G (s₁.setTop (mkF m 61 #[rv wd, rv bd, iv rnv, iv (0 : Int32), iv fv, iv lv, .val (.long (own_fr fv)), .second, .val (.long (own_tl lv)), .second, iv wv] [(.long (W (F 0 / 64))), (.int wv), (.ref wd)]))
      refine Ends.go (fun _ => XS.lload X0.here hx rfl (hb hby d3_61) rfl) ?_
      show Ends p.tables e below G (s₁.setTop (mkF m 63 #[rv wd, rv bd, iv rnv, iv (0 : Int32), iv fv, iv lv, .val (.long (own_fr fv)), .second, .val (.long (own_tl lv)), .second, iv wv] [(.long (own_fr fv)), (.long (W (F 0 / 64))), (.int wv), (.ref wd)]))
      refine Ends.go (fun _ => XS.lload X0.here hx rfl (hb hby d3_63) rfl) ?_
      show Ends p.tables e below G (s₁.setTop (mkF m 65 #[rv wd, rv bd, iv rnv, iv (0 : Int32), iv fv, iv lv, .val (.long (own_fr fv)), .second, .val (.long (own_tl lv)), .second, iv wv] [(.long (own_tl lv)), (.long (own_fr fv)), (.long (W (F 0 / 64))), (.int wv), (.ref wd)]))
      refine Ends.go (fun _ => XS.land X0.here hx rfl (hb hby d3_65) rfl) ?_
      show Ends p.tables e below G (s₁.setTop (mkF m 66 #[rv wd, rv bd, iv rnv, iv (0 : Int32), iv fv, iv lv, .val (.long (own_fr fv)), .second, .val (.long (own_tl lv)), .second, iv wv] [(.long ((own_fr fv) &&& (own_tl lv))), (.long (W (F 0 / 64))), (.int wv), (.ref wd)]))
      refine Ends.go (fun _ => XS.lor X0.here hx rfl (hb hby d3_66) rfl) ?_
      show Ends p.tables e below G (s₁.setTop (mkF m 67 #[rv wd, rv bd, iv rnv, iv (0 : Int32), iv fv, iv lv, .val (.long (own_fr fv)), .second, .val (.long (own_tl lv)), .second, iv wv] [(.long ((W (F 0 / 64)) ||| ((own_fr fv) &&& (own_tl lv)))), (.int wv), (.ref wd)]))
      obtain ⟨T5, h5, X5, e5, W5, V5, st5⟩ := AF.stJ V_w X0 hx hZ e0 (j := wv) (i := (F 0 / 64)) hwf (by omega) (g := (mkF m 67 #[rv wd, rv bd, iv rnv, iv (0 : Int32), iv fv, iv lv, .val (.long (own_fr fv)), .second, .val (.long (own_tl lv)), .second, iv wv] [(.long ((W (F 0 / 64)) ||| ((own_fr fv) &&& (own_tl lv)))), (.int wv), (.ref wd)])) rfl rfl (hb hby d3_67)
      have f5_V_bd := AF.other V_b W5 ne_bw
      have sz5 := Nat.le_trans Z0 (Nat.le_of_eq W5.size.symm)
      have K5 := Keep.wr K0 W5 (Or.inl (List.mem_of_getElem? (i := 0) rfl))
      have N5 := Fr.snoc X5 N0 g_w
      refine Ends.go (fun _ => st5 _) ?_
      show Ends p.tables e below G (T5.setTop (mkF m 68 #[rv wd, rv bd, iv rnv, iv (0 : Int32), iv fv, iv lv, .val (.long (own_fr fv)), .second, .val (.long (own_tl lv)), .second, iv wv] []))
      refine Ends.go (fun _ => XS.goto X5.here hx rfl (pc0 := 68) (pc' := 115) rfl (hb hby d3_68) (by decide) (by decide)) ?_
      show Ends p.tables e below G (T5.setTop (mkF m 115 #[rv wd, rv bd, iv rnv, iv (0 : Int32), iv fv, iv lv, .val (.long (own_fr fv)), .second, .val (.long (own_tl lv)), .second, iv wv] []))
      refine Ends.go (fun _ => XS.iinc X5.here hx rfl (hb hby d3_115) rfl (l' := #[rv wd, rv bd, iv rnv, iv ((0 : Int32) + (2 : Int32)), iv fv, iv lv, .val (.long (own_fr fv)), .second, .val (.long (own_tl lv)), .second, iv wv]) rfl) ?_
      show Ends p.tables e below G (T5.setTop (mkF m 118 #[rv wd, rv bd, iv rnv, iv ((0 : Int32) + (2 : Int32)), iv fv, iv lv, .val (.long (own_fr fv)), .second, .val (.long (own_tl lv)), .second, iv wv] []))
      refine Ends.go (fun _ => XS.goto X5.here hx rfl (pc0 := 118) (pc' := 2) rfl (hb hby d3_118) (by decide) (by decide)) ?_
      show Ends p.tables e below G (T5.setTop (mkF m 2 #[rv wd, rv bd, iv rnv, iv ((0 : Int32) + (2 : Int32)), iv fv, iv lv, .val (.long (own_fr fv)), .second, .val (.long (own_tl lv)), .second, iv wv] []))
      exact head1 _ _ _ (own_set W (F 0 / 64) (W (F 0 / 64) ||| (own_fr fv &&& own_tl lv))) _ _ _ _ _ X5 e5 K5 N5 sz5 (AF.congr V5 (fun k hk => by simp only [own_set]; split <;> rfl)) f5_V_bd (fun v => (own_run1 hf hl qw W v).trans (show (bt W v || decide (F 0 ≤ v ∧ v ≤ E 0)) = (bt W v || (false || decide (F 0 ≤ v ∧ v ≤ E 0))) from by rw [Bool.false_or])) (by omega)
    · refine Ends.go (fun _ => XS.icmpYes X0.here hx rfl (pc0 := 53) (pc' := 71) rfl (hb hby d3_53) rfl (feq (fun z => qw ((own_eqn hwf hwl).mp z) : ¬ (wv = zv))).2 (by decide) (by decide)) ?_
      show Ends p.tables e below G (s₁.setTop (mkF m 71 #[rv wd, rv bd, iv rnv, iv (0 : Int32), iv fv, iv lv, .val (.long (own_fr fv)), .second, .val (.long (own_tl lv)), .second, iv wv] []))
      refine Ends.go (fun _ => XS.aloadN X0.here hx rfl (hb hby d3_71) rfl rfl) ?_
      show Ends p.tables e below G (s₁.setTop (mkF m 72 #[rv wd, rv bd, iv rnv, iv (0 : Int32), iv fv, iv lv, .val (.long (own_fr fv)), .second, .val (.long (own_tl lv)), .second, iv wv] [(.ref wd)]))
      refine Ends.go (fun _ => XS.iload X0.here hx rfl (hb hby d3_72) rfl) ?_
      show Ends p.tables e below G (s₁.setTop (mkF m 74 #[rv wd, rv bd, iv rnv, iv (0 : Int32), iv fv, iv lv, .val (.long (own_fr fv)), .second, .val (.long (own_tl lv)), .second, iv wv] [(.int wv), (.ref wd)]))
      refine Ends.go (fun _ => XT.dup2 X0.here hx rfl (hb hby d3_74) rfl rfl rfl) ?_
      show Ends p.tables e below G (s₁.setTop (mkF m 75 #[rv wd, rv bd, iv rnv, iv (0 : Int32), iv fv, iv lv, .val (.long (own_fr fv)), .second, .val (.long (own_tl lv)), .second, iv wv] [(.int wv), (.ref wd), (.int wv), (.ref wd)]))
      refine Ends.go (fun _ => AF.ldJ V_w X0 hx hZ e0 (j := wv) (i := (F 0 / 64)) hwf (by omega) (v := (.long (W (F 0 / 64)))) rfl (g := (mkF m 75 #[rv wd, rv bd, iv rnv, iv (0 : Int32), iv fv, iv lv, .val (.long (own_fr fv)), .second, .val (.long (own_tl lv)), .second, iv wv] [(.int wv), (.ref wd), (.int wv), (.ref wd)])) rfl rfl (hb hby d3_75) _) ?_
      show Ends p.tables e below G (s₁.setTop (mkF m 76 #[rv wd, rv bd, iv rnv, iv (0 : Int32), iv fv, iv lv, .val (.long (own_fr fv)), .second, .val (.long (own_tl lv)), .second, iv wv] [(.long (W (F 0 / 64))), (.int wv), (.ref wd)]))
      refine Ends.go (fun _ => XS.lload X0.here hx rfl (hb hby d3_76) rfl) ?_
      show Ends p.tables e below G (s₁.setTop (mkF m 78 #[rv wd, rv bd, iv rnv, iv (0 : Int32), iv fv, iv lv, .val (.long (own_fr fv)), .second, .val (.long (own_tl lv)), .second, iv wv] [(.long (own_fr fv)), (.long (W (F 0 / 64))), (.int wv), (.ref wd)]))
      refine Ends.go (fun _ => XS.lor X0.here hx rfl (hb hby d3_78) rfl) ?_
      show Ends p.tables e below G (s₁.setTop (mkF m 79 #[rv wd, rv bd, iv rnv, iv (0 : Int32), iv fv, iv lv, .val (.long (own_fr fv)), .second, .val (.long (own_tl lv)), .second, iv wv] [(.long ((W (F 0 / 64)) ||| (own_fr fv))), (.int wv), (.ref wd)]))
      obtain ⟨T6, h6, X6, e6, W6, V6, st6⟩ := AF.stJ V_w X0 hx hZ e0 (j := wv) (i := (F 0 / 64)) hwf (by omega) (g := (mkF m 79 #[rv wd, rv bd, iv rnv, iv (0 : Int32), iv fv, iv lv, .val (.long (own_fr fv)), .second, .val (.long (own_tl lv)), .second, iv wv] [(.long ((W (F 0 / 64)) ||| (own_fr fv))), (.int wv), (.ref wd)])) rfl rfl (hb hby d3_79)
      have f6_V_bd := AF.other V_b W6 ne_bw
      have sz6 := Nat.le_trans Z0 (Nat.le_of_eq W6.size.symm)
      have K6 := Keep.wr K0 W6 (Or.inl (List.mem_of_getElem? (i := 0) rfl))
      have N6 := Fr.snoc X6 N0 g_w
      refine Ends.go (fun _ => st6 _) ?_
      show Ends p.tables e below G (T6.setTop (mkF m 80 #[rv wd, rv bd, iv rnv, iv (0 : Int32), iv fv, iv lv, .val (.long (own_fr fv)), .second, .val (.long (own_tl lv)), .second, iv wv] []))
      refine Ends.go (fun _ => XS.iinc X6.here hx rfl (hb hby d3_80) rfl (l' := #[rv wd, rv bd, iv rnv, iv (0 : Int32), iv fv, iv lv, .val (.long (own_fr fv)), .second, .val (.long (own_tl lv)), .second, iv (wv + (1 : Int32))]) rfl) ?_
      show Ends p.tables e below G (T6.setTop (mkF m 83 #[rv wd, rv bd, iv rnv, iv (0 : Int32), iv fv, iv lv, .val (.long (own_fr fv)), .second, .val (.long (own_tl lv)), .second, iv (wv + (1 : Int32))] []))
      have hw1 := own_add hwf (b := 1) (y := 1) rfl (by omega)
      have hlt : F 0 / 64 < E 0 / 64 := by omega
      have fill : ∀ (k u : Nat) (uv : Int32) (T7 : State) (L7 : List Loc) (h7 : Heap), Stand p l e ({ frames := 0, cells := 0, slots := 0, locals := 0 } : Room) s m #[(.ref wd), (.ref bd), (.int rnv)] below meth c T7 L7 0 0 → T7.heap = h7 → Keep h0 h7 [wd] → Fr n0 L7 → n0 ≤ h7.size → AF Z h7 wd .long 1024 (fun k => .long (own_fill (own_set W (F 0 / 64) (W (F 0 / 64) ||| own_fr fv)) (F 0 / 64 + 1) u k)) → AF Z h7 bd .char 4 (fun k => .int (B k)) → uv.toInt = (u : Int) → F 0 / 64 + 1 ≤ u → u + k = E 0 / 64 → Ends p.tables e below G (T7.setTop (mkF m 83 #[rv wd, rv bd, iv rnv, iv (0 : Int32), iv fv, iv lv, .val (.long (own_fr fv)), .second, .val (.long (own_tl lv)), .second, iv uv] [])) := by
        intro k
        induction k with
        | zero =>
          intro u uv T7 L7 h7 X7 e7 K7 N7 sz7 V7 U7 hu hlo hk
          obtain rfl : u = E 0 / 64 := by omega
          refine Ends.go (fun _ => XS.iload X7.here hx rfl (hb hby d3_83) rfl) ?_
          show Ends p.tables e below G (T7.setTop (mkF m 85 #[rv wd, rv bd, iv rnv, iv (0 : Int32), iv fv, iv lv, .val (.long (own_fr fv)), .second, .val (.long (own_tl lv)), .second, iv uv] [(.int uv)]))
          refine Ends.go (fun _ => XS.iload X7.here hx rfl (hb hby d3_85) rfl) ?_
          show Ends p.tables e below G (T7.setTop (mkF m 87 #[rv wd, rv bd, iv rnv, iv (0 : Int32), iv fv, iv lv, .val (.long (own_fr fv)), .second, .val (.long (own_tl lv)), .second, iv uv] [(.int lv), (.int uv)]))
          refine Ends.go (fun _ => XS.bipush X7.here hx rfl (hb hby d3_87)) ?_
          show Ends p.tables e below G (T7.setTop (mkF m 89 #[rv wd, rv bd, iv rnv, iv (0 : Int32), iv fv, iv lv, .val (.long (own_fr fv)), .second, .val (.long (own_tl lv)), .second, iv uv] [(.int (6 : Int32)), (.int lv), (.int uv)]))
          refine Ends.go (fun _ => XS.iushr X7.here hx rfl (hb hby d3_89) rfl) ?_
          show Ends p.tables e below G (T7.setTop (mkF m 90 #[rv wd, rv bd, iv rnv, iv (0 : Int32), iv fv, iv lv, .val (.long (own_fr fv)), .second, .val (.long (own_tl lv)), .second, iv uv] [(.int ((lv.toUInt32 >>> ((6 : Int32) &&& 31).toUInt32).toInt32)), (.int uv)]))
          have hwl2 := own_sh6 hl hl6
          generalize ((lv.toUInt32 >>> ((6 : Int32) &&& 31).toUInt32).toInt32) = zw at hwl2 ⊢
          show Ends p.tables e below G (T7.setTop (mkF m 90 #[rv wd, rv bd, iv rnv, iv (0 : Int32), iv fv, iv lv, .val (.long (own_fr fv)), .second, .val (.long (own_tl lv)), .second, iv uv] [(.int zw), (.int uv)]))
          refine Ends.go (fun _ => XS.icmpYes X7.here hx rfl (pc0 := 90) (pc' := 106) rfl (hb hby d3_90) rfl (flt (fun z => absurd ((own_lt hu hwl2).mp z) (by omega) : ¬ (uv < zw))).2.1 (by decide) (by decide)) ?_
          show Ends p.tables e below G (T7.setTop (mkF m 106 #[rv wd, rv bd, iv rnv, iv (0 : Int32), iv fv, iv lv, .val (.long (own_fr fv)), .second, .val (.long (own_tl lv)), .second, iv uv] []))
          refine Ends.go (fun _ => XS.aloadN X7.here hx rfl (hb hby d3_106) rfl rfl) ?_
          show Ends p.tables e below G (T7.setTop (mkF m 107 #[rv wd, rv bd, iv rnv, iv (0 : Int32), iv fv, iv lv, .val (.long (own_fr fv)), .second, .val (.long (own_tl lv)), .second, iv uv] [(.ref wd)]))
          refine Ends.go (fun _ => XS.iload X7.here hx rfl (hb hby d3_107) rfl) ?_
          show Ends p.tables e below G (T7.setTop (mkF m 109 #[rv wd, rv bd, iv rnv, iv (0 : Int32), iv fv, iv lv, .val (.long (own_fr fv)), .second, .val (.long (own_tl lv)), .second, iv uv] [(.int uv), (.ref wd)]))
          refine Ends.go (fun _ => XT.dup2 X7.here hx rfl (hb hby d3_109) rfl rfl rfl) ?_
          show Ends p.tables e below G (T7.setTop (mkF m 110 #[rv wd, rv bd, iv rnv, iv (0 : Int32), iv fv, iv lv, .val (.long (own_fr fv)), .second, .val (.long (own_tl lv)), .second, iv uv] [(.int uv), (.ref wd), (.int uv), (.ref wd)]))
          refine Ends.go (fun _ => AF.ldJ V7 X7 hx hZ e7 (j := uv) (i := (E 0 / 64)) hu (by omega) (v := (.long (own_fill (own_set W (F 0 / 64) (W (F 0 / 64) ||| own_fr fv)) (F 0 / 64 + 1) (E 0 / 64) (E 0 / 64)))) rfl (g := (mkF m 110 #[rv wd, rv bd, iv rnv, iv (0 : Int32), iv fv, iv lv, .val (.long (own_fr fv)), .second, .val (.long (own_tl lv)), .second, iv uv] [(.int uv), (.ref wd), (.int uv), (.ref wd)])) rfl rfl (hb hby d3_110) _) ?_
          show Ends p.tables e below G (T7.setTop (mkF m 111 #[rv wd, rv bd, iv rnv, iv (0 : Int32), iv fv, iv lv, .val (.long (own_fr fv)), .second, .val (.long (own_tl lv)), .second, iv uv] [(.long (own_fill (own_set W (F 0 / 64) (W (F 0 / 64) ||| own_fr fv)) (F 0 / 64 + 1) (E 0 / 64) (E 0 / 64))), (.int uv), (.ref wd)]))
          refine Ends.go (fun _ => XS.lload X7.here hx rfl (hb hby d3_111) rfl) ?_
          show Ends p.tables e below G (T7.setTop (mkF m 113 #[rv wd, rv bd, iv rnv, iv (0 : Int32), iv fv, iv lv, .val (.long (own_fr fv)), .second, .val (.long (own_tl lv)), .second, iv uv] [(.long (own_tl lv)), (.long (own_fill (own_set W (F 0 / 64) (W (F 0 / 64) ||| own_fr fv)) (F 0 / 64 + 1) (E 0 / 64) (E 0 / 64))), (.int uv), (.ref wd)]))
          refine Ends.go (fun _ => XS.lor X7.here hx rfl (hb hby d3_113) rfl) ?_
          show Ends p.tables e below G (T7.setTop (mkF m 114 #[rv wd, rv bd, iv rnv, iv (0 : Int32), iv fv, iv lv, .val (.long (own_fr fv)), .second, .val (.long (own_tl lv)), .second, iv uv] [(.long ((own_fill (own_set W (F 0 / 64) (W (F 0 / 64) ||| own_fr fv)) (F 0 / 64 + 1) (E 0 / 64) (E 0 / 64)) ||| (own_tl lv))), (.int uv), (.ref wd)]))
          obtain ⟨T7, h7, X7, e7, W7, V7, st7⟩ := AF.stJ V7 X7 hx hZ e7 (j := uv) (i := (E 0 / 64)) hu (by omega) (g := (mkF m 114 #[rv wd, rv bd, iv rnv, iv (0 : Int32), iv fv, iv lv, .val (.long (own_fr fv)), .second, .val (.long (own_tl lv)), .second, iv uv] [(.long ((own_fill (own_set W (F 0 / 64) (W (F 0 / 64) ||| own_fr fv)) (F 0 / 64 + 1) (E 0 / 64) (E 0 / 64)) ||| (own_tl lv))), (.int uv), (.ref wd)])) rfl rfl (hb hby d3_114)
          have f7_V_bd := AF.other U7 W7 ne_bw
          have sz7 := Nat.le_trans sz7 (Nat.le_of_eq W7.size.symm)
          have K7 := Keep.wr K7 W7 (Or.inl (List.mem_of_getElem? (i := 0) rfl))
          have N7 := Fr.snoc X7 N7 g_w
          refine Ends.go (fun _ => st7 _) ?_
          show Ends p.tables e below G (T7.setTop (mkF m 115 #[rv wd, rv bd, iv rnv, iv (0 : Int32), iv fv, iv lv, .val (.long (own_fr fv)), .second, .val (.long (own_tl lv)), .second, iv uv] []))
          refine Ends.go (fun _ => XS.iinc X7.here hx rfl (hb hby d3_115) rfl (l' := #[rv wd, rv bd, iv rnv, iv ((0 : Int32) + (2 : Int32)), iv fv, iv lv, .val (.long (own_fr fv)), .second, .val (.long (own_tl lv)), .second, iv uv]) rfl) ?_
          show Ends p.tables e below G (T7.setTop (mkF m 118 #[rv wd, rv bd, iv rnv, iv ((0 : Int32) + (2 : Int32)), iv fv, iv lv, .val (.long (own_fr fv)), .second, .val (.long (own_tl lv)), .second, iv uv] []))
          refine Ends.go (fun _ => XS.goto X7.here hx rfl (pc0 := 118) (pc' := 2) rfl (hb hby d3_118) (by decide) (by decide)) ?_
          show Ends p.tables e below G (T7.setTop (mkF m 2 #[rv wd, rv bd, iv rnv, iv ((0 : Int32) + (2 : Int32)), iv fv, iv lv, .val (.long (own_fr fv)), .second, .val (.long (own_tl lv)), .second, iv uv] []))
          exact head1 _ _ _ (own_set (own_fill (own_set W (F 0 / 64) (W (F 0 / 64) ||| own_fr fv)) (F 0 / 64 + 1) (E 0 / 64)) (E 0 / 64) (own_fill (own_set W (F 0 / 64) (W (F 0 / 64) ||| own_fr fv)) (F 0 / 64 + 1) (E 0 / 64) (E 0 / 64) ||| own_tl lv)) _ _ _ _ _ X7 e7 K7 N7 sz7 (AF.congr V7 (fun k hk => by simp only [own_set]; split <;> rfl)) f7_V_bd (fun v => (own_run2 hf hl hlt W v).trans (show (bt W v || decide (F 0 ≤ v ∧ v ≤ E 0)) = (bt W v || (false || decide (F 0 ≤ v ∧ v ≤ E 0))) from by rw [Bool.false_or])) (by omega)
        | succ k ih =>
          intro u uv T7 L7 h7 X7 e7 K7 N7 sz7 V7 U7 hu hlo hk
          refine Ends.go (fun _ => XS.iload X7.here hx rfl (hb hby d3_83) rfl) ?_
          show Ends p.tables e below G (T7.setTop (mkF m 85 #[rv wd, rv bd, iv rnv, iv (0 : Int32), iv fv, iv lv, .val (.long (own_fr fv)), .second, .val (.long (own_tl lv)), .second, iv uv] [(.int uv)]))
          refine Ends.go (fun _ => XS.iload X7.here hx rfl (hb hby d3_85) rfl) ?_
          show Ends p.tables e below G (T7.setTop (mkF m 87 #[rv wd, rv bd, iv rnv, iv (0 : Int32), iv fv, iv lv, .val (.long (own_fr fv)), .second, .val (.long (own_tl lv)), .second, iv uv] [(.int lv), (.int uv)]))
          refine Ends.go (fun _ => XS.bipush X7.here hx rfl (hb hby d3_87)) ?_
          show Ends p.tables e below G (T7.setTop (mkF m 89 #[rv wd, rv bd, iv rnv, iv (0 : Int32), iv fv, iv lv, .val (.long (own_fr fv)), .second, .val (.long (own_tl lv)), .second, iv uv] [(.int (6 : Int32)), (.int lv), (.int uv)]))
          refine Ends.go (fun _ => XS.iushr X7.here hx rfl (hb hby d3_89) rfl) ?_
          show Ends p.tables e below G (T7.setTop (mkF m 90 #[rv wd, rv bd, iv rnv, iv (0 : Int32), iv fv, iv lv, .val (.long (own_fr fv)), .second, .val (.long (own_tl lv)), .second, iv uv] [(.int ((lv.toUInt32 >>> ((6 : Int32) &&& 31).toUInt32).toInt32)), (.int uv)]))
          have hwl2 := own_sh6 hl hl6
          generalize ((lv.toUInt32 >>> ((6 : Int32) &&& 31).toUInt32).toInt32) = zw at hwl2 ⊢
          show Ends p.tables e below G (T7.setTop (mkF m 90 #[rv wd, rv bd, iv rnv, iv (0 : Int32), iv fv, iv lv, .val (.long (own_fr fv)), .second, .val (.long (own_tl lv)), .second, iv uv] [(.int zw), (.int uv)]))
          refine Ends.go (fun _ => XS.icmpNo X7.here hx rfl (hb hby d3_90) rfl (tlt ((own_lt hu hwl2).mpr (by omega) : uv < zw)).2.1) ?_
          show Ends p.tables e below G (T7.setTop (mkF m 93 #[rv wd, rv bd, iv rnv, iv (0 : Int32), iv fv, iv lv, .val (.long (own_fr fv)), .second, .val (.long (own_tl lv)), .second, iv uv] []))
          refine Ends.go (fun _ => XS.aloadN X7.here hx rfl (hb hby d3_93) rfl rfl) ?_
          show Ends p.tables e below G (T7.setTop (mkF m 94 #[rv wd, rv bd, iv rnv, iv (0 : Int32), iv fv, iv lv, .val (.long (own_fr fv)), .second, .val (.long (own_tl lv)), .second, iv uv] [(.ref wd)]))
          refine Ends.go (fun _ => XS.iload X7.here hx rfl (hb hby d3_94) rfl) ?_
          show Ends p.tables e below G (T7.setTop (mkF m 96 #[rv wd, rv bd, iv rnv, iv (0 : Int32), iv fv, iv lv, .val (.long (own_fr fv)), .second, .val (.long (own_tl lv)), .second, iv uv] [(.int uv), (.ref wd)]))
          refine Ends.go (fun _ => X7.ldc2Long hx hown (mvT hZ (hw _ (List.mem_of_getElem? (i := 14) rfl))) (g := (mkF m 96 #[rv wd, rv bd, iv rnv, iv (0 : Int32), iv fv, iv lv, .val (.long (own_fr fv)), .second, .val (.long (own_tl lv)), .second, iv uv] [(.int uv), (.ref wd)])) rfl (hb hby d3_96) _) ?_
          show Ends p.tables e below G (T7.setTop (mkF m 99 #[rv wd, rv bd, iv rnv, iv (0 : Int32), iv fv, iv lv, .val (.long (own_fr fv)), .second, .val (.long (own_tl lv)), .second, iv uv] [(.long (-1 : Int64)), (.int uv), (.ref wd)]))
          obtain ⟨T8, h8, X8, e8, W8, V8, st8⟩ := AF.stJ V7 X7 hx hZ e7 (j := uv) (i := u) hu (by omega) (g := (mkF m 99 #[rv wd, rv bd, iv rnv, iv (0 : Int32), iv fv, iv lv, .val (.long (own_fr fv)), .second, .val (.long (own_tl lv)), .second, iv uv] [(.long (-1 : Int64)), (.int uv), (.ref wd)])) rfl rfl (hb hby d3_99)
          have f8_V_bd := AF.other U7 W8 ne_bw
          have sz8 := Nat.le_trans sz7 (Nat.le_of_eq W8.size.symm)
          have K8 := Keep.wr K7 W8 (Or.inl (List.mem_of_getElem? (i := 0) rfl))
          have N8 := Fr.snoc X8 N7 g_w
          refine Ends.go (fun _ => st8 _) ?_
          show Ends p.tables e below G (T8.setTop (mkF m 100 #[rv wd, rv bd, iv rnv, iv (0 : Int32), iv fv, iv lv, .val (.long (own_fr fv)), .second, .val (.long (own_tl lv)), .second, iv uv] []))
          refine Ends.go (fun _ => XS.iinc X8.here hx rfl (hb hby d3_100) rfl (l' := #[rv wd, rv bd, iv rnv, iv (0 : Int32), iv fv, iv lv, .val (.long (own_fr fv)), .second, .val (.long (own_tl lv)), .second, iv (uv + (1 : Int32))]) rfl) ?_
          show Ends p.tables e below G (T8.setTop (mkF m 103 #[rv wd, rv bd, iv rnv, iv (0 : Int32), iv fv, iv lv, .val (.long (own_fr fv)), .second, .val (.long (own_tl lv)), .second, iv (uv + (1 : Int32))] []))
          refine Ends.go (fun _ => XS.goto X8.here hx rfl (pc0 := 103) (pc' := 83) rfl (hb hby d3_103) (by decide) (by decide)) ?_
          show Ends p.tables e below G (T8.setTop (mkF m 83 #[rv wd, rv bd, iv rnv, iv (0 : Int32), iv fv, iv lv, .val (.long (own_fr fv)), .second, .val (.long (own_tl lv)), .second, iv (uv + (1 : Int32))] []))
          exact ih (u + 1) _ _ _ _ X8 e8 K8 N8 sz8 (AF.congr V8 (fun k hk => by rw [← own_fill_next _ _ _ hlo]; split <;> rfl)) f8_V_bd (own_add hu (b := 1) rfl (by omega)) (by omega) (by omega)
      exact fill (E 0 / 64 - (F 0 / 64 + 1)) _ _ _ _ _ X6 e6 K6 N6 sz6 (AF.congr V6 (fun k hk => by simp only [own_fill, own_set]; rw [if_neg (show ¬ (F 0 / 64 + 1 ≤ k ∧ k < F 0 / 64 + 1) by omega)]; split <;> rfl)) f6_V_bd hw1 (Nat.le_refl _) (by omega)
def own_B4 (a0 a1 a2 a3 : Int32) : Nat → Int32
  | 0 => a0
  | 1 => a1
  | 2 => a2
  | _ => a3
def own_S2 (a0 a1 : Nat) : Nat → Nat
  | 0 => a0
  | _ => a1
theorem own_pre {x : Int32} {n : Nat} (hx : x.toInt = (n : Int)) (v : Nat) : bt (own_set (fun _ => (0 : Int64)) (n / 64) ((1 : Int64) <<< ((x &&& (63 : Int32)) &&& 0x3f).toInt64)) v = decide (v = n) := by
  have hi := Nat.mod_lt v (y := 64) (by decide)
  simp only [bt, own_set]
  by_cases h : v / 64 = n / 64
  · rw [if_pos h, own_and63 hx, own_one ⟨n % 64, Nat.mod_lt _ (by decide)⟩ ⟨v % 64, hi⟩]
    apply decide_eq_decide.mpr
    show v % 64 = n % 64 ↔ v = n
    omega
  · rw [if_neg h, own_zero ⟨v % 64, hi⟩]
    symm
    apply decide_eq_false
    omega
theorem own_amt : ∀ k : Fin 64, ((Int32.ofNat k.val &&& 0x3f).toInt64.toUInt64.toBitVec % 64#64).toNat = k.val := by decide +kernel
theorem own_bitv (y : Int64) {x : Int32} {n : Nat} (hx : x.toInt = (n : Int)) : lcmpW (((y.toUInt64 >>> ((x &&& (63 : Int32)) &&& 0x3f).toInt64.toUInt64).toInt64) &&& (1 : Int64)) (0 : Int64) = 0 ↔ y.toBitVec.getLsbD (n % 64) = false := by
  rw [lw_eq, own_and63 hx]
  have hk := own_amt ⟨n % 64, Nat.mod_lt _ (by decide)⟩
  have e : (((y.toUInt64 >>> ((Int32.ofNat (n % 64)) &&& 0x3f).toInt64.toUInt64).toInt64) &&& (1 : Int64)) = 0 ↔ (y.toBitVec >>> (n % 64)) &&& 1#64 = 0#64 := by
    rw [← Int64.toBitVec_inj]
    show (y.toBitVec >>> (((Int32.ofNat (n % 64)) &&& 0x3f).toInt64.toUInt64.toBitVec % 64#64)) &&& 1#64 = 0#64 ↔ _
    rw [BitVec.ushiftRight_eq', hk]
  rw [e]
  constructor
  · intro h
    have := congrArg (fun z => BitVec.getLsbD z 0) h
    simpa using this
  · intro h
    apply BitVec.eq_of_getLsbD_eq
    intro i hi
    simp only [BitVec.getLsbD_and, BitVec.getLsbD_ushiftRight]
    by_cases q : i = 0
    · subst q; simp [h]
    · have : ∀ k : Fin 64, k.val ≠ 0 → (1#64).getLsbD k.val = false := by decide
      rw [this ⟨i, hi⟩ q]; simp
theorem own_key {B W : Bool} {rn val pre q0 q1 q2 q3 : Nat} (hrn : rn ≤ 2) (hW : W = decide (val = pre)) (h : B = (W || inRuns (own_S2 q0 q2) (own_S2 q1 q3) rn val)) : B = true ↔ (val = pre ∨ (1 ≤ rn ∧ q0 ≤ val ∧ val ≤ q1) ∨ (2 ≤ rn ∧ q2 ≤ val ∧ val ≤ q3)) := by
  subst hW h
  have : rn = 0 ∨ rn = 1 ∨ rn = 2 := by omega
  rcases this with rfl | rfl | rfl <;> simp [inRuns, own_S2, or_assoc]
theorem pd_0 : parseMethodDescriptor "(II)I" = some ⟨[.int, .int], some .int⟩ := by decide +kernel
theorem pd_1 : parseMethodDescriptor "([J[CI)V" = some ⟨[(.array .long), (.array .char), .int], none⟩ := by decide +kernel
theorem pn_0 : plainName "com/example/bitstrata/bitstrata/bitmap/RunContainerOrIntoPinLaw" = true := by first | (simp [plainName, overriddenIn]; done) | decide +kernel
theorem ef_0 (m : MethodId) (x0 : Int32) (x1 : Int32) (x2 : Int32) (x3 : Int32) (x4 : Int32) (x5 : Int32) : entryFrame m #[(.int x0), (.int x1), (.int x2), (.int x3), (.int x4), (.int x5)] maxLocals = mkF m 0 #[iv x0, iv x1, iv x2, iv x3, iv x4, iv x5, un, un, un, un, un, un, un, un, un, un, un, un, un, un, un, un, un] [] := by first | (simp [entryFrame, mkF, argsToLocals, Value.category, maxLocals]; done) | rfl
def Q0 (Z : State) (vx : Int32) (vy : Int32) (vz : Int32) (vu : Int32) (vp : Int32) (vq : Int32) (h0 : Heap) (n0 : Nat) (v : Option Value) (h : Heap) (L : List Loc) : Prop := v = some (.int 1) ∧ Fr n0 L
set_option maxRecDepth 65536 in
set_option maxHeartbeats 40000000 in
theorem rm0 (l : Launch) (Z : State) (a0 : Array Value) (hw : ∀ d ∈ tables_1, d.before a0 Z = true) (ws : List Jvm.Cond) (vx : Int32) (vy : Int32) (vz : Int32) (vu : Int32) (vp : Int32) (vq : Int32) (h0 : Heap) (n0 : Nat) (Z0 : n0 ≤ h0.size) :
    MetFree l x (head1 (Jvm.Cond.code x code maxLocals ret :: ws) room_1) (fun a U => a = #[(.int vx), (.int vy), (.int vz), (.int vu), (.int vp), (.int vq)] ∧ Z.Warmed39 U.vm ∧ U.heap = h0) (fun _ _ _ _ _ => True) (fun _ U o U' => ∃ v L, o = .returned v ∧ Q0 Z vx vy vz vu vp vq h0 n0 v U'.heap L ∧ FrameEnd U o U' L room_1.cells room_1.slots) := by
  refine MetFree.of_bodySF (plainFor_of_name pn_0) hisR ?_
  intro p e s m args below meth c s₁ Bd hml0 hP hK
  obtain ⟨rfl, hZ, hh⟩ := hP
  have hx := Bd.exec
  have hby := Bd.bytes
  have hml : c.maxLocals = 23 := hml0
  have hown : s.vm.findClass "com/example/bitstrata/bitstrata/bitmap/RunContainerOrIntoPinLaw" = some m.cls := findClass_of_methodNamed Bd.named
  have hnm := (name_of_methodNamed Bd.named Bd.method).1
  have X0 : Stand p l e room_1 s m #[(.int vx), (.int vy), (.int vz), (.int vu), (.int vp), (.int vq)] below meth c s₁ [] 0 0 := Stand.of_body Bd
  have e0 : s₁.heap = h0 := by rw [← hh, Bd.state]; rfl
  have N0 := Fr.nil n0
  show Ends p.tables e below (fun (s₂ : State) (o : Outcome) => ∃ v L, o = .returned v ∧ (Q0 Z vx vy vz vu vp vq h0 n0) v s₂.heap L ∧ FrameEnd s o s₂ L room_1.cells room_1.slots) (s₁.setTop (entryFrame m #[(.int vx), (.int vy), (.int vz), (.int vu), (.int vp), (.int vq)] maxLocals))
  refine Ends.any fun G hG => ?_
  refine Ends.go (fun t k => castTop (ef_0 m vx vy vz vu vp vq) k) ?_
  show Ends p.tables e below G (s₁.setTop (mkF m 0 #[iv vx, iv vy, iv vz, iv vu, iv vp, iv vq, un, un, un, un, un, un, un, un, un, un, un, un, un, un, un, un, un] []))
  refine Ends.go (fun _ => XS.iloadN X0.here hx rfl (hb hby at_0) rfl) ?_
  show Ends p.tables e below G (s₁.setTop (mkF m 1 #[iv vx, iv vy, iv vz, iv vu, iv vp, iv vq, un, un, un, un, un, un, un, un, un, un, un, un, un, un, un, un, un] [(.int vx)]))
  refine Ends.go (fun _ => X0.ldcInt hx hown (mvT hZ (hw _ (List.mem_of_getElem? (i := 0) rfl))) (g := (mkF m 1 #[iv vx, iv vy, iv vz, iv vu, iv vp, iv vq, un, un, un, un, un, un, un, un, un, un, un, un, un, un, un, un, un] [(.int vx)])) rfl (hb hby at_1) _) ?_
  show Ends p.tables e below G (s₁.setTop (mkF m 3 #[iv vx, iv vy, iv vz, iv vu, iv vp, iv vq, un, un, un, un, un, un, un, un, un, un, un, un, un, un, un, un, un] [(.int (65535 : Int32)), (.int vx)]))
  refine Ends.go (fun _ => XS.iand X0.here hx rfl (hb hby at_3) rfl) ?_
  show Ends p.tables e below G (s₁.setTop (mkF m 4 #[iv vx, iv vy, iv vz, iv vu, iv vp, iv vq, un, un, un, un, un, un, un, un, un, un, un, un, un, un, un, un, un] [(.int (vx &&& (65535 : Int32)))]))
  refine Ends.go (fun _ => XS.istore X0.here hx rfl (hb hby at_4) rfl (l' := #[iv vx, iv vy, iv vz, iv vu, iv vp, iv vq, iv (vx &&& (65535 : Int32)), un, un, un, un, un, un, un, un, un, un, un, un, un, un, un, un]) rfl) ?_
  show Ends p.tables e below G (s₁.setTop (mkF m 6 #[iv vx, iv vy, iv vz, iv vu, iv vp, iv vq, iv (vx &&& (65535 : Int32)), un, un, un, un, un, un, un, un, un, un, un, un, un, un, un, un] []))
  obtain ⟨na, hna6, hna⟩ := own_m16 vx
  generalize (vx &&& (65535 : Int32)) = nav at hna ⊢
  show Ends p.tables e below G (s₁.setTop (mkF m 6 #[iv vx, iv vy, iv vz, iv vu, iv vp, iv vq, iv nav, un, un, un, un, un, un, un, un, un, un, un, un, un, un, un, un] []))
  refine Ends.go (fun _ => XS.iloadN X0.here hx rfl (hb hby at_6) rfl) ?_
  show Ends p.tables e below G (s₁.setTop (mkF m 7 #[iv vx, iv vy, iv vz, iv vu, iv vp, iv vq, iv nav, un, un, un, un, un, un, un, un, un, un, un, un, un, un, un, un] [(.int vy)]))
  refine Ends.go (fun _ => X0.ldcInt hx hown (mvT hZ (hw _ (List.mem_of_getElem? (i := 0) rfl))) (g := (mkF m 7 #[iv vx, iv vy, iv vz, iv vu, iv vp, iv vq, iv nav, un, un, un, un, un, un, un, un, un, un, un, un, un, un, un, un] [(.int vy)])) rfl (hb hby at_7) _) ?_
  show Ends p.tables e below G (s₁.setTop (mkF m 9 #[iv vx, iv vy, iv vz, iv vu, iv vp, iv vq, iv nav, un, un, un, un, un, un, un, un, un, un, un, un, un, un, un, un] [(.int (65535 : Int32)), (.int vy)]))
  refine Ends.go (fun _ => XS.iand X0.here hx rfl (hb hby at_9) rfl) ?_
  show Ends p.tables e below G (s₁.setTop (mkF m 10 #[iv vx, iv vy, iv vz, iv vu, iv vp, iv vq, iv nav, un, un, un, un, un, un, un, un, un, un, un, un, un, un, un, un] [(.int (vy &&& (65535 : Int32)))]))
  refine Ends.go (fun _ => XS.istore X0.here hx rfl (hb hby at_10) rfl (l' := #[iv vx, iv vy, iv vz, iv vu, iv vp, iv vq, iv nav, iv (vy &&& (65535 : Int32)), un, un, un, un, un, un, un, un, un, un, un, un, un, un, un]) rfl) ?_
  show Ends p.tables e below G (s₁.setTop (mkF m 12 #[iv vx, iv vy, iv vz, iv vu, iv vp, iv vq, iv nav, iv (vy &&& (65535 : Int32)), un, un, un, un, un, un, un, un, un, un, un, un, un, un, un] []))
  obtain ⟨nb, hnb6, hnb⟩ := own_m16 vy
  generalize (vy &&& (65535 : Int32)) = nbv at hnb ⊢
  show Ends p.tables e below G (s₁.setTop (mkF m 12 #[iv vx, iv vy, iv vz, iv vu, iv vp, iv vq, iv nav, iv nbv, un, un, un, un, un, un, un, un, un, un, un, un, un, un, un] []))
  refine Ends.go (fun _ => XS.iload X0.here hx rfl (hb hby at_12) rfl) ?_
  show Ends p.tables e below G (s₁.setTop (mkF m 14 #[iv vx, iv vy, iv vz, iv vu, iv vp, iv vq, iv nav, iv nbv, un, un, un, un, un, un, un, un, un, un, un, un, un, un, un] [(.int nav)]))
  refine Ends.go (fun _ => XS.iload X0.here hx rfl (hb hby at_14) rfl) ?_
  show Ends p.tables e below G (s₁.setTop (mkF m 16 #[iv vx, iv vy, iv vz, iv vu, iv vp, iv vq, iv nav, iv nbv, un, un, un, un, un, un, un, un, un, un, un, un, un, un, un] [(.int nbv), (.int nav)]))
  obtain ⟨_, _, ⟨T1, L1, k1, n1⟩, -, X1, ⟨Lc1, hQ1, l1, y1, z1⟩, st1⟩ := Jvm.LawKit.callS X0 hx (y := (⟨"java/lang/Math", "min", "(II)I"⟩ : MethodName)) hown (mvT hZ (hw _ (List.mem_of_getElem? (i := 1) rfl))) (mvT hZ (hw _ (List.mem_of_getElem? (i := 2) rfl))) (mvT hZ (hw _ (List.mem_of_getElem? (i := 3) rfl))) (mvT hZ (hw _ (List.mem_of_getElem? (i := 4) rfl))) (by decide) (backOf (W := 0) (rm1 l Z a0 hw [] nav nbv na nb h0 n0 Z0 hna hnb) hZ (hw _ (List.mem_of_getElem? (i := 4) rfl)) (hw _ (List.mem_of_getElem? (i := 3) rfl)) (by decide) (by decide)) (g := (mkF m 16 #[iv vx, iv vy, iv vz, iv vu, iv vp, iv vq, iv nav, iv nbv, un, un, un, un, un, un, un, un, un, un, un, un, un, un, un] [(.int nbv), (.int nav)])) rfl (by rw [hml]; rfl) (argsL := [(.int nav), (.int nbv)]) (rest := []) (lenOf pd_0 rfl) rfl (by show 2 * 0 + _ ≤ _; exact Nat.le_of_eq rfl) (hb hby at_16) (fun _ _ => ⟨rfl, e0, (by decide : 0 + 0 ≤ _), (by decide : 0 + 0 ≤ _)⟩)
  dsimp only [Pt.U, Pt.locs, Pt.cells, Pt.slots] at X1 l1 y1 z1 st1 hQ1
  subst l1 y1 z1
  obtain ⟨fav, rfl, N1q, e1, hfa⟩ := hQ1
  have N1 := Fr.app N0 N1q
  refine Ends.go (fun _ => st1 _) ?_
  show Ends p.tables e below G (T1.setTop (mkF m 19 #[iv vx, iv vy, iv vz, iv vu, iv vp, iv vq, iv nav, iv nbv, un, un, un, un, un, un, un, un, un, un, un, un, un, un, un] [(.int fav)]))
  refine Ends.go (fun _ => XS.istore X1.here hx rfl (hb hby at_19) rfl (l' := #[iv vx, iv vy, iv vz, iv vu, iv vp, iv vq, iv nav, iv nbv, iv fav, un, un, un, un, un, un, un, un, un, un, un, un, un, un]) rfl) ?_
  show Ends p.tables e below G (T1.setTop (mkF m 21 #[iv vx, iv vy, iv vz, iv vu, iv vp, iv vq, iv nav, iv nbv, iv fav, un, un, un, un, un, un, un, un, un, un, un, un, un, un] []))
  refine Ends.go (fun _ => XS.iload X1.here hx rfl (hb hby at_21) rfl) ?_
  show Ends p.tables e below G (T1.setTop (mkF m 23 #[iv vx, iv vy, iv vz, iv vu, iv vp, iv vq, iv nav, iv nbv, iv fav, un, un, un, un, un, un, un, un, un, un, un, un, un, un] [(.int nav)]))
  refine Ends.go (fun _ => XS.iload X1.here hx rfl (hb hby at_23) rfl) ?_
  show Ends p.tables e below G (T1.setTop (mkF m 25 #[iv vx, iv vy, iv vz, iv vu, iv vp, iv vq, iv nav, iv nbv, iv fav, un, un, un, un, un, un, un, un, un, un, un, un, un, un] [(.int nbv), (.int nav)]))
  obtain ⟨_, _, ⟨T2, L2, k2, n2⟩, -, X2, ⟨Lc2, hQ2, l2, y2, z2⟩, st2⟩ := Jvm.LawKit.callS X1 hx (y := (⟨"java/lang/Math", "max", "(II)I"⟩ : MethodName)) hown (mvT hZ (hw _ (List.mem_of_getElem? (i := 5) rfl))) (mvT hZ (hw _ (List.mem_of_getElem? (i := 6) rfl))) (mvT hZ (hw _ (List.mem_of_getElem? (i := 3) rfl))) (mvT hZ (hw _ (List.mem_of_getElem? (i := 7) rfl))) (by decide) (backOf (W := 0) (rm2 l Z a0 hw [] nav nbv na nb h0 n0 Z0 hna hnb) hZ (hw _ (List.mem_of_getElem? (i := 7) rfl)) (hw _ (List.mem_of_getElem? (i := 3) rfl)) (by decide) (by decide)) (g := (mkF m 25 #[iv vx, iv vy, iv vz, iv vu, iv vp, iv vq, iv nav, iv nbv, iv fav, un, un, un, un, un, un, un, un, un, un, un, un, un, un] [(.int nbv), (.int nav)])) rfl (by rw [hml]; rfl) (argsL := [(.int nav), (.int nbv)]) (rest := []) (lenOf pd_0 rfl) rfl (by show 2 * 0 + _ ≤ _; exact Nat.le_of_eq rfl) (hb hby at_25) (fun _ _ => ⟨rfl, e1, (by decide : (0 + 0) + 0 ≤ _), (by decide : (0 + 0) + 0 ≤ _)⟩)
  dsimp only [Pt.U, Pt.locs, Pt.cells, Pt.slots] at X2 l2 y2 z2 st2 hQ2
  subst l2 y2 z2
  obtain ⟨lav, rfl, N2q, e2, hla⟩ := hQ2
  have N2 := Fr.app N1 N2q
  refine Ends.go (fun _ => st2 _) ?_
  show Ends p.tables e below G (T2.setTop (mkF m 28 #[iv vx, iv vy, iv vz, iv vu, iv vp, iv vq, iv nav, iv nbv, iv fav, un, un, un, un, un, un, un, un, un, un, un, un, un, un] [(.int lav)]))
  refine Ends.go (fun _ => XS.istore X2.here hx rfl (hb hby at_28) rfl (l' := #[iv vx, iv vy, iv vz, iv vu, iv vp, iv vq, iv nav, iv nbv, iv fav, iv lav, un, un, un, un, un, un, un, un, un, un, un, un, un]) rfl) ?_
  show Ends p.tables e below G (T2.setTop (mkF m 30 #[iv vx, iv vy, iv vz, iv vu, iv vp, iv vq, iv nav, iv nbv, iv fav, iv lav, un, un, un, un, un, un, un, un, un, un, un, un, un] []))
  refine Ends.go (fun _ => XS.iloadN X2.here hx rfl (hb hby at_30) rfl) ?_
  show Ends p.tables e below G (T2.setTop (mkF m 31 #[iv vx, iv vy, iv vz, iv vu, iv vp, iv vq, iv nav, iv nbv, iv fav, iv lav, un, un, un, un, un, un, un, un, un, un, un, un, un] [(.int vz)]))
  refine Ends.go (fun _ => X2.ldcInt hx hown (mvT hZ (hw _ (List.mem_of_getElem? (i := 0) rfl))) (g := (mkF m 31 #[iv vx, iv vy, iv vz, iv vu, iv vp, iv vq, iv nav, iv nbv, iv fav, iv lav, un, un, un, un, un, un, un, un, un, un, un, un, un] [(.int vz)])) rfl (hb hby at_31) _) ?_
  show Ends p.tables e below G (T2.setTop (mkF m 33 #[iv vx, iv vy, iv vz, iv vu, iv vp, iv vq, iv nav, iv nbv, iv fav, iv lav, un, un, un, un, un, un, un, un, un, un, un, un, un] [(.int (65535 : Int32)), (.int vz)]))
  refine Ends.go (fun _ => XS.iand X2.here hx rfl (hb hby at_33) rfl) ?_
  show Ends p.tables e below G (T2.setTop (mkF m 34 #[iv vx, iv vy, iv vz, iv vu, iv vp, iv vq, iv nav, iv nbv, iv fav, iv lav, un, un, un, un, un, un, un, un, un, un, un, un, un] [(.int (vz &&& (65535 : Int32)))]))
  refine Ends.go (fun _ => XS.istore X2.here hx rfl (hb hby at_34) rfl (l' := #[iv vx, iv vy, iv vz, iv vu, iv vp, iv vq, iv nav, iv nbv, iv fav, iv lav, iv (vz &&& (65535 : Int32)), un, un, un, un, un, un, un, un, un, un, un, un]) rfl) ?_
  show Ends p.tables e below G (T2.setTop (mkF m 36 #[iv vx, iv vy, iv vz, iv vu, iv vp, iv vq, iv nav, iv nbv, iv fav, iv lav, iv (vz &&& (65535 : Int32)), un, un, un, un, un, un, un, un, un, un, un, un] []))
  obtain ⟨nc, hnc6, hnc⟩ := own_m16 vz
  generalize (vz &&& (65535 : Int32)) = ncv at hnc ⊢
  show Ends p.tables e below G (T2.setTop (mkF m 36 #[iv vx, iv vy, iv vz, iv vu, iv vp, iv vq, iv nav, iv nbv, iv fav, iv lav, iv ncv, un, un, un, un, un, un, un, un, un, un, un, un] []))
  refine Ends.go (fun _ => XS.iloadN X2.here hx rfl (hb hby at_36) rfl) ?_
  show Ends p.tables e below G (T2.setTop (mkF m 37 #[iv vx, iv vy, iv vz, iv vu, iv vp, iv vq, iv nav, iv nbv, iv fav, iv lav, iv ncv, un, un, un, un, un, un, un, un, un, un, un, un] [(.int vu)]))
  refine Ends.go (fun _ => X2.ldcInt hx hown (mvT hZ (hw _ (List.mem_of_getElem? (i := 0) rfl))) (g := (mkF m 37 #[iv vx, iv vy, iv vz, iv vu, iv vp, iv vq, iv nav, iv nbv, iv fav, iv lav, iv ncv, un, un, un, un, un, un, un, un, un, un, un, un] [(.int vu)])) rfl (hb hby at_37) _) ?_
  show Ends p.tables e below G (T2.setTop (mkF m 39 #[iv vx, iv vy, iv vz, iv vu, iv vp, iv vq, iv nav, iv nbv, iv fav, iv lav, iv ncv, un, un, un, un, un, un, un, un, un, un, un, un] [(.int (65535 : Int32)), (.int vu)]))
  refine Ends.go (fun _ => XS.iand X2.here hx rfl (hb hby at_39) rfl) ?_
  show Ends p.tables e below G (T2.setTop (mkF m 40 #[iv vx, iv vy, iv vz, iv vu, iv vp, iv vq, iv nav, iv nbv, iv fav, iv lav, iv ncv, un, un, un, un, un, un, un, un, un, un, un, un] [(.int (vu &&& (65535 : Int32)))]))
  refine Ends.go (fun _ => XS.istore X2.here hx rfl (hb hby at_40) rfl (l' := #[iv vx, iv vy, iv vz, iv vu, iv vp, iv vq, iv nav, iv nbv, iv fav, iv lav, iv ncv, iv (vu &&& (65535 : Int32)), un, un, un, un, un, un, un, un, un, un, un]) rfl) ?_
  show Ends p.tables e below G (T2.setTop (mkF m 42 #[iv vx, iv vy, iv vz, iv vu, iv vp, iv vq, iv nav, iv nbv, iv fav, iv lav, iv ncv, iv (vu &&& (65535 : Int32)), un, un, un, un, un, un, un, un, un, un, un] []))
  obtain ⟨nd, hnd6, hnd⟩ := own_m16 vu
  generalize (vu &&& (65535 : Int32)) = ndv at hnd ⊢
  show Ends p.tables e below G (T2.setTop (mkF m 42 #[iv vx, iv vy, iv vz, iv vu, iv vp, iv vq, iv nav, iv nbv, iv fav, iv lav, iv ncv, iv ndv, un, un, un, un, un, un, un, un, un, un, un] []))
  refine Ends.go (fun _ => XS.iload X2.here hx rfl (hb hby at_42) rfl) ?_
  show Ends p.tables e below G (T2.setTop (mkF m 44 #[iv vx, iv vy, iv vz, iv vu, iv vp, iv vq, iv nav, iv nbv, iv fav, iv lav, iv ncv, iv ndv, un, un, un, un, un, un, un, un, un, un, un] [(.int ncv)]))
  refine Ends.go (fun _ => XS.iload X2.here hx rfl (hb hby at_44) rfl) ?_
  show Ends p.tables e below G (T2.setTop (mkF m 46 #[iv vx, iv vy, iv vz, iv vu, iv vp, iv vq, iv nav, iv nbv, iv fav, iv lav, iv ncv, iv ndv, un, un, un, un, un, un, un, un, un, un, un] [(.int ndv), (.int ncv)]))
  obtain ⟨_, _, ⟨T3, L3, k3, n3⟩, -, X3, ⟨Lc3, hQ3, l3, y3, z3⟩, st3⟩ := Jvm.LawKit.callS X2 hx (y := (⟨"java/lang/Math", "min", "(II)I"⟩ : MethodName)) hown (mvT hZ (hw _ (List.mem_of_getElem? (i := 1) rfl))) (mvT hZ (hw _ (List.mem_of_getElem? (i := 2) rfl))) (mvT hZ (hw _ (List.mem_of_getElem? (i := 3) rfl))) (mvT hZ (hw _ (List.mem_of_getElem? (i := 4) rfl))) (by decide) (backOf (W := 0) (rm1 l Z a0 hw [] ncv ndv nc nd h0 n0 Z0 hnc hnd) hZ (hw _ (List.mem_of_getElem? (i := 4) rfl)) (hw _ (List.mem_of_getElem? (i := 3) rfl)) (by decide) (by decide)) (g := (mkF m 46 #[iv vx, iv vy, iv vz, iv vu, iv vp, iv vq, iv nav, iv nbv, iv fav, iv lav, iv ncv, iv ndv, un, un, un, un, un, un, un, un, un, un, un] [(.int ndv), (.int ncv)])) rfl (by rw [hml]; rfl) (argsL := [(.int ncv), (.int ndv)]) (rest := []) (lenOf pd_0 rfl) rfl (by show 2 * 0 + _ ≤ _; exact Nat.le_of_eq rfl) (hb hby at_46) (fun _ _ => ⟨rfl, e2, (by decide : ((0 + 0) + 0) + 0 ≤ _), (by decide : ((0 + 0) + 0) + 0 ≤ _)⟩)
  dsimp only [Pt.U, Pt.locs, Pt.cells, Pt.slots] at X3 l3 y3 z3 st3 hQ3
  subst l3 y3 z3
  obtain ⟨fbv, rfl, N3q, e3, hfb⟩ := hQ3
  have N3 := Fr.app N2 N3q
  refine Ends.go (fun _ => st3 _) ?_
  show Ends p.tables e below G (T3.setTop (mkF m 49 #[iv vx, iv vy, iv vz, iv vu, iv vp, iv vq, iv nav, iv nbv, iv fav, iv lav, iv ncv, iv ndv, un, un, un, un, un, un, un, un, un, un, un] [(.int fbv)]))
  refine Ends.go (fun _ => XS.istore X3.here hx rfl (hb hby at_49) rfl (l' := #[iv vx, iv vy, iv vz, iv vu, iv vp, iv vq, iv nav, iv nbv, iv fav, iv lav, iv ncv, iv ndv, iv fbv, un, un, un, un, un, un, un, un, un, un]) rfl) ?_
  show Ends p.tables e below G (T3.setTop (mkF m 51 #[iv vx, iv vy, iv vz, iv vu, iv vp, iv vq, iv nav, iv nbv, iv fav, iv lav, iv ncv, iv ndv, iv fbv, un, un, un, un, un, un, un, un, un, un] []))
  refine Ends.go (fun _ => XS.iload X3.here hx rfl (hb hby at_51) rfl) ?_
  show Ends p.tables e below G (T3.setTop (mkF m 53 #[iv vx, iv vy, iv vz, iv vu, iv vp, iv vq, iv nav, iv nbv, iv fav, iv lav, iv ncv, iv ndv, iv fbv, un, un, un, un, un, un, un, un, un, un] [(.int ncv)]))
  refine Ends.go (fun _ => XS.iload X3.here hx rfl (hb hby at_53) rfl) ?_
  show Ends p.tables e below G (T3.setTop (mkF m 55 #[iv vx, iv vy, iv vz, iv vu, iv vp, iv vq, iv nav, iv nbv, iv fav, iv lav, iv ncv, iv ndv, iv fbv, un, un, un, un, un, un, un, un, un, un] [(.int ndv), (.int ncv)]))
  obtain ⟨_, _, ⟨T4, L4, k4, n4⟩, -, X4, ⟨Lc4, hQ4, l4, y4, z4⟩, st4⟩ := Jvm.LawKit.callS X3 hx (y := (⟨"java/lang/Math", "max", "(II)I"⟩ : MethodName)) hown (mvT hZ (hw _ (List.mem_of_getElem? (i := 5) rfl))) (mvT hZ (hw _ (List.mem_of_getElem? (i := 6) rfl))) (mvT hZ (hw _ (List.mem_of_getElem? (i := 3) rfl))) (mvT hZ (hw _ (List.mem_of_getElem? (i := 7) rfl))) (by decide) (backOf (W := 0) (rm2 l Z a0 hw [] ncv ndv nc nd h0 n0 Z0 hnc hnd) hZ (hw _ (List.mem_of_getElem? (i := 7) rfl)) (hw _ (List.mem_of_getElem? (i := 3) rfl)) (by decide) (by decide)) (g := (mkF m 55 #[iv vx, iv vy, iv vz, iv vu, iv vp, iv vq, iv nav, iv nbv, iv fav, iv lav, iv ncv, iv ndv, iv fbv, un, un, un, un, un, un, un, un, un, un] [(.int ndv), (.int ncv)])) rfl (by rw [hml]; rfl) (argsL := [(.int ncv), (.int ndv)]) (rest := []) (lenOf pd_0 rfl) rfl (by show 2 * 0 + _ ≤ _; exact Nat.le_of_eq rfl) (hb hby at_55) (fun _ _ => ⟨rfl, e3, (by decide : (((0 + 0) + 0) + 0) + 0 ≤ _), (by decide : (((0 + 0) + 0) + 0) + 0 ≤ _)⟩)
  dsimp only [Pt.U, Pt.locs, Pt.cells, Pt.slots] at X4 l4 y4 z4 st4 hQ4
  subst l4 y4 z4
  obtain ⟨lbv, rfl, N4q, e4, hlb⟩ := hQ4
  have N4 := Fr.app N3 N4q
  refine Ends.go (fun _ => st4 _) ?_
  show Ends p.tables e below G (T4.setTop (mkF m 58 #[iv vx, iv vy, iv vz, iv vu, iv vp, iv vq, iv nav, iv nbv, iv fav, iv lav, iv ncv, iv ndv, iv fbv, un, un, un, un, un, un, un, un, un, un] [(.int lbv)]))
  obtain ⟨f1, l1, hf1, hl1, hle1, hl16⟩ : ∃ f1 l1 : Nat, fav.toInt = (f1 : Int) ∧ lav.toInt = (l1 : Int) ∧ f1 ≤ l1 ∧ l1 < 65536 := ⟨_, _, hfa, hla, by omega, by omega⟩
  obtain ⟨f2, l2, hf2, hl2, hle2, hl26⟩ : ∃ f2 l2 : Nat, fbv.toInt = (f2 : Int) ∧ lbv.toInt = (l2 : Int) ∧ f2 ≤ l2 ∧ l2 < 65536 := ⟨_, _, hfb, hlb, by omega, by omega⟩
  refine Ends.go (fun _ => XS.istore X4.here hx rfl (hb hby at_58) rfl (l' := #[iv vx, iv vy, iv vz, iv vu, iv vp, iv vq, iv nav, iv nbv, iv fav, iv lav, iv ncv, iv ndv, iv fbv, iv lbv, un, un, un, un, un, un, un, un, un]) rfl) ?_
  show Ends p.tables e below G (T4.setTop (mkF m 60 #[iv vx, iv vy, iv vz, iv vu, iv vp, iv vq, iv nav, iv nbv, iv fav, iv lav, iv ncv, iv ndv, iv fbv, iv lbv, un, un, un, un, un, un, un, un, un] []))
  refine Ends.go (fun _ => XS.iload X4.here hx rfl (hb hby at_60) rfl) ?_
  show Ends p.tables e below G (T4.setTop (mkF m 62 #[iv vx, iv vy, iv vz, iv vu, iv vp, iv vq, iv nav, iv nbv, iv fav, iv lav, iv ncv, iv ndv, iv fbv, iv lbv, un, un, un, un, un, un, un, un, un] [(.int vq)]))
  refine Ends.go (fun _ => XS.bipush X4.here hx rfl (hb hby at_62)) ?_
  show Ends p.tables e below G (T4.setTop (mkF m 64 #[iv vx, iv vy, iv vz, iv vu, iv vp, iv vq, iv nav, iv nbv, iv fav, iv lav, iv ncv, iv ndv, iv fbv, iv lbv, un, un, un, un, un, un, un, un, un] [(.int (16 : Int32)), (.int vq)]))
  refine Ends.go (fun _ => XS.iushr X4.here hx rfl (hb hby at_64) rfl) ?_
  show Ends p.tables e below G (T4.setTop (mkF m 65 #[iv vx, iv vy, iv vz, iv vu, iv vp, iv vq, iv nav, iv nbv, iv fav, iv lav, iv ncv, iv ndv, iv fbv, iv lbv, un, un, un, un, un, un, un, un, un] [(.int ((vq.toUInt32 >>> ((16 : Int32) &&& 31).toUInt32).toInt32))]))
  refine Ends.go (fun _ => XS.iconst X4.here hx rfl (hb hby at_65)) ?_
  show Ends p.tables e below G (T4.setTop (mkF m 66 #[iv vx, iv vy, iv vz, iv vu, iv vp, iv vq, iv nav, iv nbv, iv fav, iv lav, iv ncv, iv ndv, iv fbv, iv lbv, un, un, un, un, un, un, un, un, un] [(.int (3 : Int32)), (.int ((vq.toUInt32 >>> ((16 : Int32) &&& 31).toUInt32).toInt32))]))
  refine Ends.go (fun _ => XS.irem X4.here hx rfl (hb hby at_66) rfl (by decide)) ?_
  show Ends p.tables e below G (T4.setTop (mkF m 67 #[iv vx, iv vy, iv vz, iv vu, iv vp, iv vq, iv nav, iv nbv, iv fav, iv lav, iv ncv, iv ndv, iv fbv, iv lbv, un, un, un, un, un, un, un, un, un] [(.int (((vq.toUInt32 >>> ((16 : Int32) &&& 31).toUInt32).toInt32) - (((vq.toUInt32 >>> ((16 : Int32) &&& 31).toUInt32).toInt32) / (3 : Int32)) * (3 : Int32)))]))
  refine Ends.go (fun _ => XS.istore X4.here hx rfl (hb hby at_67) rfl (l' := #[iv vx, iv vy, iv vz, iv vu, iv vp, iv vq, iv nav, iv nbv, iv fav, iv lav, iv ncv, iv ndv, iv fbv, iv lbv, iv (((vq.toUInt32 >>> ((16 : Int32) &&& 31).toUInt32).toInt32) - (((vq.toUInt32 >>> ((16 : Int32) &&& 31).toUInt32).toInt32) / (3 : Int32)) * (3 : Int32)), un, un, un, un, un, un, un, un]) rfl) ?_
  show Ends p.tables e below G (T4.setTop (mkF m 69 #[iv vx, iv vy, iv vz, iv vu, iv vp, iv vq, iv nav, iv nbv, iv fav, iv lav, iv ncv, iv ndv, iv fbv, iv lbv, iv (((vq.toUInt32 >>> ((16 : Int32) &&& 31).toUInt32).toInt32) - (((vq.toUInt32 >>> ((16 : Int32) &&& 31).toUInt32).toInt32) / (3 : Int32)) * (3 : Int32)), un, un, un, un, un, un, un, un] []))
  obtain ⟨rn, hrn3, hrn⟩ := own_irem (x := ((vq.toUInt32 >>> ((16 : Int32) &&& 31).toUInt32).toInt32)) (y := 3) (b := 3) (by rw [c_iushr vq 16 16 (by decide) (by decide)]; have := Int.emod_nonneg vq.toInt (b := 4294967296) (by decide); have e : ((2 ^ 16 : Nat) : Int) = 65536 := rfl; omega) rfl (by decide)
  generalize (((vq.toUInt32 >>> ((16 : Int32) &&& 31).toUInt32).toInt32) - (((vq.toUInt32 >>> ((16 : Int32) &&& 31).toUInt32).toInt32) / (3 : Int32)) * (3 : Int32)) = rnv at hrn ⊢
  show Ends p.tables e below G (T4.setTop (mkF m 69 #[iv vx, iv vy, iv vz, iv vu, iv vp, iv vq, iv nav, iv nbv, iv fav, iv lav, iv ncv, iv ndv, iv fbv, iv lbv, iv rnv, un, un, un, un, un, un, un, un] []))
  refine Ends.go (fun _ => XS.iconst X4.here hx rfl (hb hby at_69)) ?_
  show Ends p.tables e below G (T4.setTop (mkF m 70 #[iv vx, iv vy, iv vz, iv vu, iv vp, iv vq, iv nav, iv nbv, iv fav, iv lav, iv ncv, iv ndv, iv fbv, iv lbv, iv rnv, un, un, un, un, un, un, un, un] [(.int (4 : Int32))]))
  obtain ⟨T5, h5, k5, X5, e5, E5, A5, st5⟩ := newP X4 hx hZ (hw _ (List.mem_of_getElem? (i := 8) rfl)) e4 (g := (mkF m 70 #[iv vx, iv vy, iv vz, iv vu, iv vp, iv vq, iv nav, iv nbv, iv fav, iv lav, iv ncv, iv ndv, iv fbv, iv lbv, iv rnv, un, un, un, un, un, un, un, un] [(.int (4 : Int32))])) rfl (hb hby at_70) rfl (by decide) (cap := 4) (by decide) (by decide) (by decide) (by decide)
  obtain ⟨b5, g5⟩ : ∃ z, z = h0.size := ⟨_, rfl⟩
  rw [← g5] at A5 st5
  have g_b5 : n0 ≤ b5 := Nat.le_trans Z0 (Nat.le_of_eq g5.symm)
  have sz5 := Nat.le_trans Z0 E5.1
  have V5 : AF Z h5 b5 .char 4 (fun _ => (.int (0 : Int32))) := AF.new A5 rfl
  refine Ends.go (fun _ => st5 _) ?_
  show Ends p.tables e below G (T5.setTop (mkF m 72 #[iv vx, iv vy, iv vz, iv vu, iv vp, iv vq, iv nav, iv nbv, iv fav, iv lav, iv ncv, iv ndv, iv fbv, iv lbv, iv rnv, un, un, un, un, un, un, un, un] [(.ref b5)]))
  refine Ends.go (fun _ => XS.astore X5.here hx rfl (hb hby at_72) rfl rfl (l' := #[iv vx, iv vy, iv vz, iv vu, iv vp, iv vq, iv nav, iv nbv, iv fav, iv lav, iv ncv, iv ndv, iv fbv, iv lbv, iv rnv, rv b5, un, un, un, un, un, un, un]) rfl) ?_
  show Ends p.tables e below G (T5.setTop (mkF m 74 #[iv vx, iv vy, iv vz, iv vu, iv vp, iv vq, iv nav, iv nbv, iv fav, iv lav, iv ncv, iv ndv, iv fbv, iv lbv, iv rnv, rv b5, un, un, un, un, un, un, un] []))
  refine Ends.go (fun _ => XS.iload X5.here hx rfl (hb hby at_74) rfl) ?_
  show Ends p.tables e below G (T5.setTop (mkF m 76 #[iv vx, iv vy, iv vz, iv vu, iv vp, iv vq, iv nav, iv nbv, iv fav, iv lav, iv ncv, iv ndv, iv fbv, iv lbv, iv rnv, rv b5, un, un, un, un, un, un, un] [(.int fbv)]))
  refine Ends.go (fun _ => XS.iload X5.here hx rfl (hb hby at_76) rfl) ?_
  show Ends p.tables e below G (T5.setTop (mkF m 78 #[iv vx, iv vy, iv vz, iv vu, iv vp, iv vq, iv nav, iv nbv, iv fav, iv lav, iv ncv, iv ndv, iv fbv, iv lbv, iv rnv, rv b5, un, un, un, un, un, un, un] [(.int lav), (.int fbv)]))
  refine Ends.go (fun _ => XS.iconst X5.here hx rfl (hb hby at_78)) ?_
  show Ends p.tables e below G (T5.setTop (mkF m 79 #[iv vx, iv vy, iv vz, iv vu, iv vp, iv vq, iv nav, iv nbv, iv fav, iv lav, iv ncv, iv ndv, iv fbv, iv lbv, iv rnv, rv b5, un, un, un, un, un, un, un] [(.int (1 : Int32)), (.int lav), (.int fbv)]))
  refine Ends.go (fun _ => XS.iadd X5.here hx rfl (hb hby at_79) rfl) ?_
  show Ends p.tables e below G (T5.setTop (mkF m 80 #[iv vx, iv vy, iv vz, iv vu, iv vp, iv vq, iv nav, iv nbv, iv fav, iv lav, iv ncv, iv ndv, iv fbv, iv lbv, iv rnv, rv b5, un, un, un, un, un, un, un] [(.int (lav + (1 : Int32))), (.int fbv)]))
  have tail190 : ∀ (T9 : State) (L9 : List Loc) (h9 : Heap) (x0 x1 x2 x3 : Int32) (q0 q1 q2 q3 : Nat), Stand p l e room_1 s m #[(.int vx), (.int vy), (.int vz), (.int vu), (.int vp), (.int vq)] below meth c T9 L9 (((((0 + 0) + 0) + 0) + 0) + 1) (((((0 + 0) + 0) + 0) + 0) + 4) → T9.heap = h9 → Fr n0 L9 → n0 ≤ h9.size → AF Z h9 b5 .char 4 (fun k => .int ((own_B4 x0 x1 x2 x3) k)) → x0.toInt = (q0 : Int) → x1.toInt = (q1 : Int) → x2.toInt = (q2 : Int) → x3.toInt = (q3 : Int) → q0 ≤ q1 → q1 < 65536 → q2 ≤ q3 → q3 < 65536 → Ends p.tables e below G (T9.setTop (mkF m 190 #[iv vx, iv vy, iv vz, iv vu, iv vp, iv vq, iv nav, iv nbv, iv fav, iv lav, iv ncv, iv ndv, iv fbv, iv lbv, iv rnv, rv b5, un, un, un, un, un, un, un] [])) := by
    intro T9 L9 h9 x0 x1 x2 x3 q0 q1 q2 q3 X9 e9 N9 sz9 V9 hx0 hx1 hx2 hx3 h01 h16 h23 h36
    refine Ends.go (fun _ => XS.iload X9.here hx rfl (hb hby at_190) rfl) ?_
    show Ends p.tables e below G (T9.setTop (mkF m 192 #[iv vx, iv vy, iv vz, iv vu, iv vp, iv vq, iv nav, iv nbv, iv fav, iv lav, iv ncv, iv ndv, iv fbv, iv lbv, iv rnv, rv b5, un, un, un, un, un, un, un] [(.int vq)]))
    refine Ends.go (fun _ => X9.ldcInt hx hown (mvT hZ (hw _ (List.mem_of_getElem? (i := 0) rfl))) (g := (mkF m 192 #[iv vx, iv vy, iv vz, iv vu, iv vp, iv vq, iv nav, iv nbv, iv fav, iv lav, iv ncv, iv ndv, iv fbv, iv lbv, iv rnv, rv b5, un, un, un, un, un, un, un] [(.int vq)])) rfl (hb hby at_192) _) ?_
    show Ends p.tables e below G (T9.setTop (mkF m 194 #[iv vx, iv vy, iv vz, iv vu, iv vp, iv vq, iv nav, iv nbv, iv fav, iv lav, iv ncv, iv ndv, iv fbv, iv lbv, iv rnv, rv b5, un, un, un, un, un, un, un] [(.int (65535 : Int32)), (.int vq)]))
    refine Ends.go (fun _ => XS.iand X9.here hx rfl (hb hby at_194) rfl) ?_
    show Ends p.tables e below G (T9.setTop (mkF m 195 #[iv vx, iv vy, iv vz, iv vu, iv vp, iv vq, iv nav, iv nbv, iv fav, iv lav, iv ncv, iv ndv, iv fbv, iv lbv, iv rnv, rv b5, un, un, un, un, un, un, un] [(.int (vq &&& (65535 : Int32)))]))
    refine Ends.go (fun _ => XS.istore X9.here hx rfl (hb hby at_195) rfl (l' := #[iv vx, iv vy, iv vz, iv vu, iv vp, iv vq, iv nav, iv nbv, iv fav, iv lav, iv ncv, iv ndv, iv fbv, iv lbv, iv rnv, rv b5, iv (vq &&& (65535 : Int32)), un, un, un, un, un, un]) rfl) ?_
    show Ends p.tables e below G (T9.setTop (mkF m 197 #[iv vx, iv vy, iv vz, iv vu, iv vp, iv vq, iv nav, iv nbv, iv fav, iv lav, iv ncv, iv ndv, iv fbv, iv lbv, iv rnv, rv b5, iv (vq &&& (65535 : Int32)), un, un, un, un, un, un] []))
    obtain ⟨pre, hpre6, hpre⟩ := own_m16 vq
    generalize (vq &&& (65535 : Int32)) = prv at hpre ⊢
    show Ends p.tables e below G (T9.setTop (mkF m 197 #[iv vx, iv vy, iv vz, iv vu, iv vp, iv vq, iv nav, iv nbv, iv fav, iv lav, iv ncv, iv ndv, iv fbv, iv lbv, iv rnv, rv b5, iv prv, un, un, un, un, un, un] []))
    refine Ends.go (fun _ => XS.sipush X9.here hx rfl (hb hby at_197)) ?_
    show Ends p.tables e below G (T9.setTop (mkF m 200 #[iv vx, iv vy, iv vz, iv vu, iv vp, iv vq, iv nav, iv nbv, iv fav, iv lav, iv ncv, iv ndv, iv fbv, iv lbv, iv rnv, rv b5, iv prv, un, un, un, un, un, un] [(.int (1024 : Int32))]))
    obtain ⟨T6, h6, k6, X6, e6, E6, A6, st6⟩ := newP X9 hx hZ (hw _ (List.mem_of_getElem? (i := 9) rfl)) e9 (g := (mkF m 200 #[iv vx, iv vy, iv vz, iv vu, iv vp, iv vq, iv nav, iv nbv, iv fav, iv lav, iv ncv, iv ndv, iv fbv, iv lbv, iv rnv, rv b5, iv prv, un, un, un, un, un, un] [(.int (1024 : Int32))])) rfl (hb hby at_200) rfl (by decide) (cap := 1024) (by decide) (by decide) (by decide) (by decide)
    obtain ⟨b6, g6⟩ : ∃ z, z = h9.size := ⟨_, rfl⟩
    rw [← g6] at A6 st6
    have g_b6 : n0 ≤ b6 := Nat.le_trans sz9 (Nat.le_of_eq g6.symm)
    have ne_b5_b6 : b5 ≠ b6 := Nat.ne_of_lt (Nat.lt_of_lt_of_le (AF.lt V9) (Nat.le_of_eq g6.symm))
    have f6_V_b5 := AF.ext V9 E6
    have sz6 := Nat.le_trans sz9 E6.1
    have V6 : AF Z h6 b6 .long 1024 (fun _ => (.long (0 : Int64))) := AF.new A6 rfl
    refine Ends.go (fun _ => st6 _) ?_
    show Ends p.tables e below G (T6.setTop (mkF m 202 #[iv vx, iv vy, iv vz, iv vu, iv vp, iv vq, iv nav, iv nbv, iv fav, iv lav, iv ncv, iv ndv, iv fbv, iv lbv, iv rnv, rv b5, iv prv, un, un, un, un, un, un] [(.ref b6)]))
    refine Ends.go (fun _ => XS.astore X6.here hx rfl (hb hby at_202) rfl rfl (l' := #[iv vx, iv vy, iv vz, iv vu, iv vp, iv vq, iv nav, iv nbv, iv fav, iv lav, iv ncv, iv ndv, iv fbv, iv lbv, iv rnv, rv b5, iv prv, rv b6, un, un, un, un, un]) rfl) ?_
    show Ends p.tables e below G (T6.setTop (mkF m 204 #[iv vx, iv vy, iv vz, iv vu, iv vp, iv vq, iv nav, iv nbv, iv fav, iv lav, iv ncv, iv ndv, iv fbv, iv lbv, iv rnv, rv b5, iv prv, rv b6, un, un, un, un, un] []))
    refine Ends.go (fun _ => XS.aload X6.here hx rfl (hb hby at_204) rfl rfl) ?_
    show Ends p.tables e below G (T6.setTop (mkF m 206 #[iv vx, iv vy, iv vz, iv vu, iv vp, iv vq, iv nav, iv nbv, iv fav, iv lav, iv ncv, iv ndv, iv fbv, iv lbv, iv rnv, rv b5, iv prv, rv b6, un, un, un, un, un] [(.ref b6)]))
    refine Ends.go (fun _ => XS.iload X6.here hx rfl (hb hby at_206) rfl) ?_
    show Ends p.tables e below G (T6.setTop (mkF m 208 #[iv vx, iv vy, iv vz, iv vu, iv vp, iv vq, iv nav, iv nbv, iv fav, iv lav, iv ncv, iv ndv, iv fbv, iv lbv, iv rnv, rv b5, iv prv, rv b6, un, un, un, un, un] [(.int prv), (.ref b6)]))
    refine Ends.go (fun _ => XS.bipush X6.here hx rfl (hb hby at_208)) ?_
    show Ends p.tables e below G (T6.setTop (mkF m 210 #[iv vx, iv vy, iv vz, iv vu, iv vp, iv vq, iv nav, iv nbv, iv fav, iv lav, iv ncv, iv ndv, iv fbv, iv lbv, iv rnv, rv b5, iv prv, rv b6, un, un, un, un, un] [(.int (6 : Int32)), (.int prv), (.ref b6)]))
    refine Ends.go (fun _ => XS.iushr X6.here hx rfl (hb hby at_210) rfl) ?_
    show Ends p.tables e below G (T6.setTop (mkF m 211 #[iv vx, iv vy, iv vz, iv vu, iv vp, iv vq, iv nav, iv nbv, iv fav, iv lav, iv ncv, iv ndv, iv fbv, iv lbv, iv rnv, rv b5, iv prv, rv b6, un, un, un, un, un] [(.int ((prv.toUInt32 >>> ((6 : Int32) &&& 31).toUInt32).toInt32)), (.ref b6)]))
    refine Ends.go (fun _ => XS.lconst X6.here hx rfl (hb hby at_211)) ?_
    show Ends p.tables e below G (T6.setTop (mkF m 212 #[iv vx, iv vy, iv vz, iv vu, iv vp, iv vq, iv nav, iv nbv, iv fav, iv lav, iv ncv, iv ndv, iv fbv, iv lbv, iv rnv, rv b5, iv prv, rv b6, un, un, un, un, un] [(.long (1 : Int64)), (.int ((prv.toUInt32 >>> ((6 : Int32) &&& 31).toUInt32).toInt32)), (.ref b6)]))
    refine Ends.go (fun _ => XS.iload X6.here hx rfl (hb hby at_212) rfl) ?_
    show Ends p.tables e below G (T6.setTop (mkF m 214 #[iv vx, iv vy, iv vz, iv vu, iv vp, iv vq, iv nav, iv nbv, iv fav, iv lav, iv ncv, iv ndv, iv fbv, iv lbv, iv rnv, rv b5, iv prv, rv b6, un, un, un, un, un] [(.int prv), (.long (1 : Int64)), (.int ((prv.toUInt32 >>> ((6 : Int32) &&& 31).toUInt32).toInt32)), (.ref b6)]))
    refine Ends.go (fun _ => XS.bipush X6.here hx rfl (hb hby at_214)) ?_
    show Ends p.tables e below G (T6.setTop (mkF m 216 #[iv vx, iv vy, iv vz, iv vu, iv vp, iv vq, iv nav, iv nbv, iv fav, iv lav, iv ncv, iv ndv, iv fbv, iv lbv, iv rnv, rv b5, iv prv, rv b6, un, un, un, un, un] [(.int (63 : Int32)), (.int prv), (.long (1 : Int64)), (.int ((prv.toUInt32 >>> ((6 : Int32) &&& 31).toUInt32).toInt32)), (.ref b6)]))
    refine Ends.go (fun _ => XS.iand X6.here hx rfl (hb hby at_216) rfl) ?_
    show Ends p.tables e below G (T6.setTop (mkF m 217 #[iv vx, iv vy, iv vz, iv vu, iv vp, iv vq, iv nav, iv nbv, iv fav, iv lav, iv ncv, iv ndv, iv fbv, iv lbv, iv rnv, rv b5, iv prv, rv b6, un, un, un, un, un] [(.int (prv &&& (63 : Int32))), (.long (1 : Int64)), (.int ((prv.toUInt32 >>> ((6 : Int32) &&& 31).toUInt32).toInt32)), (.ref b6)]))
    refine Ends.go (fun _ => XS.lshl X6.here hx rfl (hb hby at_217) rfl) ?_
    show Ends p.tables e below G (T6.setTop (mkF m 218 #[iv vx, iv vy, iv vz, iv vu, iv vp, iv vq, iv nav, iv nbv, iv fav, iv lav, iv ncv, iv ndv, iv fbv, iv lbv, iv rnv, rv b5, iv prv, rv b6, un, un, un, un, un] [(.long ((1 : Int64) <<< ((prv &&& (63 : Int32)) &&& 0x3f).toInt64)), (.int ((prv.toUInt32 >>> ((6 : Int32) &&& 31).toUInt32).toInt32)), (.ref b6)]))
    obtain ⟨T7, h7, X7, e7, W7, V7, st7⟩ := AF.stJ V6 X6 hx hZ e6 (j := ((prv.toUInt32 >>> ((6 : Int32) &&& 31).toUInt32).toInt32)) (i := (pre / 64)) (own_sh6 hpre hpre6) (by omega) (g := (mkF m 218 #[iv vx, iv vy, iv vz, iv vu, iv vp, iv vq, iv nav, iv nbv, iv fav, iv lav, iv ncv, iv ndv, iv fbv, iv lbv, iv rnv, rv b5, iv prv, rv b6, un, un, un, un, un] [(.long ((1 : Int64) <<< ((prv &&& (63 : Int32)) &&& 0x3f).toInt64)), (.int ((prv.toUInt32 >>> ((6 : Int32) &&& 31).toUInt32).toInt32)), (.ref b6)])) rfl rfl (hb hby at_218)
    have f7_V_b5 := AF.other f6_V_b5 W7 ne_b5_b6
    have sz7 := Nat.le_trans sz6 (Nat.le_of_eq W7.size.symm)
    have N7 := Fr.snoc X7 N9 g_b6
    refine Ends.go (fun _ => st7 _) ?_
    show Ends p.tables e below G (T7.setTop (mkF m 219 #[iv vx, iv vy, iv vz, iv vu, iv vp, iv vq, iv nav, iv nbv, iv fav, iv lav, iv ncv, iv ndv, iv fbv, iv lbv, iv rnv, rv b5, iv prv, rv b6, un, un, un, un, un] []))
    refine Ends.go (fun _ => XS.aload X7.here hx rfl (hb hby at_219) rfl rfl) ?_
    show Ends p.tables e below G (T7.setTop (mkF m 221 #[iv vx, iv vy, iv vz, iv vu, iv vp, iv vq, iv nav, iv nbv, iv fav, iv lav, iv ncv, iv ndv, iv fbv, iv lbv, iv rnv, rv b5, iv prv, rv b6, un, un, un, un, un] [(.ref b6)]))
    refine Ends.go (fun _ => XS.aload X7.here hx rfl (hb hby at_221) rfl rfl) ?_
    show Ends p.tables e below G (T7.setTop (mkF m 223 #[iv vx, iv vy, iv vz, iv vu, iv vp, iv vq, iv nav, iv nbv, iv fav, iv lav, iv ncv, iv ndv, iv fbv, iv lbv, iv rnv, rv b5, iv prv, rv b6, un, un, un, un, un] [(.ref b5), (.ref b6)]))
    refine Ends.go (fun _ => XS.iload X7.here hx rfl (hb hby at_223) rfl) ?_
    show Ends p.tables e below G (T7.setTop (mkF m 225 #[iv vx, iv vy, iv vz, iv vu, iv vp, iv vq, iv nav, iv nbv, iv fav, iv lav, iv ncv, iv ndv, iv fbv, iv lbv, iv rnv, rv b5, iv prv, rv b6, un, un, un, un, un] [(.int rnv), (.ref b5), (.ref b6)]))
    have VW : AF Z h7 b6 .long 1024 (fun k => .long ((own_set (fun _ => (0 : Int64)) (pre / 64) ((1 : Int64) <<< ((prv &&& (63 : Int32)) &&& 0x3f).toInt64)) k)) := AF.congr V7 (fun k hk => by simp only [own_set]; split <;> rfl)
    obtain ⟨_, _, ⟨T8, L8, k8, n8⟩, -, X8, ⟨Lc8, hQ8, l8, y8, z8⟩, st8⟩ := Jvm.LawKit.callS X7 hx (y := (⟨"com/example/bitstrata/bitstrata/bitmap/RunContainer", "orInto", "([J[CI)V"⟩ : MethodName)) hown (mvT hZ (hw _ (List.mem_of_getElem? (i := 10) rfl))) (mvT hZ (hw _ (List.mem_of_getElem? (i := 11) rfl))) (mvT hZ (hw _ (List.mem_of_getElem? (i := 12) rfl))) (mvT hZ (hw _ (List.mem_of_getElem? (i := 13) rfl))) (by decide) (backOf (W := 0) (rm3 l Z a0 hw [] b6 b5 rnv rn (own_set (fun _ => (0 : Int64)) (pre / 64) ((1 : Int64) <<< ((prv &&& (63 : Int32)) &&& 0x3f).toInt64)) (own_B4 x0 x1 x2 x3) (own_S2 q0 q2) (own_S2 q1 q3) h7 n0 sz7 VW f7_V_b5 ne_b5_b6 g_b6 hrn (by omega) (fun r hr => match r, hr with | 0, _ => ⟨hx0, hx1, h01, h16⟩ | 1, _ => ⟨hx2, hx3, h23, h36⟩)) hZ (hw _ (List.mem_of_getElem? (i := 13) rfl)) (hw _ (List.mem_of_getElem? (i := 12) rfl)) (by decide) (by decide)) (g := (mkF m 225 #[iv vx, iv vy, iv vz, iv vu, iv vp, iv vq, iv nav, iv nbv, iv fav, iv lav, iv ncv, iv ndv, iv fbv, iv lbv, iv rnv, rv b5, iv prv, rv b6, un, un, un, un, un] [(.int rnv), (.ref b5), (.ref b6)])) rfl (by rw [hml]; rfl) (argsL := [(.ref b6), (.ref b5), (.int rnv)]) (rest := []) (lenOf pd_1 rfl) rfl (by show 2 * 0 + _ ≤ _; exact Nat.le_of_eq rfl) (hb hby at_225) (fun _ _ => ⟨rfl, e7, (by decide : ((((((0 + 0) + 0) + 0) + 0) + 1) + 1) + 0 ≤ _), (by decide : ((((((0 + 0) + 0) + 0) + 0) + 4) + 1024) + 0 ≤ _)⟩)
    dsimp only [Pt.U, Pt.locs, Pt.cells, Pt.slots] at X8 l8 y8 z8 st8 hQ8
    subst l8 y8 z8
    obtain ⟨rfl, N8q, Kq8, Wn8, VW8, hW8⟩ := hQ8
    have N8 := Fr.app N7 N8q
    have f8_V_b5 := AF.keep f7_V_b5 Kq8 (ninS ne_b5_b6 nin0)
    have sz8 := Nat.le_trans sz7 (Kq8).1
    refine Ends.go (fun _ => st8 _) ?_
    show Ends p.tables e below G (T8.setTop (mkF m 228 #[iv vx, iv vy, iv vz, iv vu, iv vp, iv vq, iv nav, iv nbv, iv fav, iv lav, iv ncv, iv ndv, iv fbv, iv lbv, iv rnv, rv b5, iv prv, rv b6, un, un, un, un, un] []))
    refine Ends.go (fun _ => XS.iload X8.here hx rfl (hb hby at_228) rfl) ?_
    show Ends p.tables e below G (T8.setTop (mkF m 230 #[iv vx, iv vy, iv vz, iv vu, iv vp, iv vq, iv nav, iv nbv, iv fav, iv lav, iv ncv, iv ndv, iv fbv, iv lbv, iv rnv, rv b5, iv prv, rv b6, un, un, un, un, un] [(.int vp)]))
    refine Ends.go (fun _ => X8.ldcInt hx hown (mvT hZ (hw _ (List.mem_of_getElem? (i := 0) rfl))) (g := (mkF m 230 #[iv vx, iv vy, iv vz, iv vu, iv vp, iv vq, iv nav, iv nbv, iv fav, iv lav, iv ncv, iv ndv, iv fbv, iv lbv, iv rnv, rv b5, iv prv, rv b6, un, un, un, un, un] [(.int vp)])) rfl (hb hby at_230) _) ?_
    show Ends p.tables e below G (T8.setTop (mkF m 232 #[iv vx, iv vy, iv vz, iv vu, iv vp, iv vq, iv nav, iv nbv, iv fav, iv lav, iv ncv, iv ndv, iv fbv, iv lbv, iv rnv, rv b5, iv prv, rv b6, un, un, un, un, un] [(.int (65535 : Int32)), (.int vp)]))
    refine Ends.go (fun _ => XS.iand X8.here hx rfl (hb hby at_232) rfl) ?_
    show Ends p.tables e below G (T8.setTop (mkF m 233 #[iv vx, iv vy, iv vz, iv vu, iv vp, iv vq, iv nav, iv nbv, iv fav, iv lav, iv ncv, iv ndv, iv fbv, iv lbv, iv rnv, rv b5, iv prv, rv b6, un, un, un, un, un] [(.int (vp &&& (65535 : Int32)))]))
    refine Ends.go (fun _ => XS.istore X8.here hx rfl (hb hby at_233) rfl (l' := #[iv vx, iv vy, iv vz, iv vu, iv vp, iv vq, iv nav, iv nbv, iv fav, iv lav, iv ncv, iv ndv, iv fbv, iv lbv, iv rnv, rv b5, iv prv, rv b6, iv (vp &&& (65535 : Int32)), un, un, un, un]) rfl) ?_
    show Ends p.tables e below G (T8.setTop (mkF m 235 #[iv vx, iv vy, iv vz, iv vu, iv vp, iv vq, iv nav, iv nbv, iv fav, iv lav, iv ncv, iv ndv, iv fbv, iv lbv, iv rnv, rv b5, iv prv, rv b6, iv (vp &&& (65535 : Int32)), un, un, un, un] []))
    obtain ⟨val, hval6, hval⟩ := own_m16 vp
    generalize (vp &&& (65535 : Int32)) = vv at hval ⊢
    show Ends p.tables e below G (T8.setTop (mkF m 235 #[iv vx, iv vy, iv vz, iv vu, iv vp, iv vq, iv nav, iv nbv, iv fav, iv lav, iv ncv, iv ndv, iv fbv, iv lbv, iv rnv, rv b5, iv prv, rv b6, iv vv, un, un, un, un] []))
    have hkey := own_key (q0 := q0) (q1 := q1) (q2 := q2) (q3 := q3) (rn := rn) (val := val) (pre := pre) (by omega) (own_pre hpre val) (hW8 val)
    refine Ends.go (fun _ => XS.aload X8.here hx rfl (hb hby at_235) rfl rfl) ?_
    show Ends p.tables e below G (T8.setTop (mkF m 237 #[iv vx, iv vy, iv vz, iv vu, iv vp, iv vq, iv nav, iv nbv, iv fav, iv lav, iv ncv, iv ndv, iv fbv, iv lbv, iv rnv, rv b5, iv prv, rv b6, iv vv, un, un, un, un] [(.ref b6)]))
    refine Ends.go (fun _ => XS.iload X8.here hx rfl (hb hby at_237) rfl) ?_
    show Ends p.tables e below G (T8.setTop (mkF m 239 #[iv vx, iv vy, iv vz, iv vu, iv vp, iv vq, iv nav, iv nbv, iv fav, iv lav, iv ncv, iv ndv, iv fbv, iv lbv, iv rnv, rv b5, iv prv, rv b6, iv vv, un, un, un, un] [(.int vv), (.ref b6)]))
    refine Ends.go (fun _ => XS.bipush X8.here hx rfl (hb hby at_239)) ?_
    show Ends p.tables e below G (T8.setTop (mkF m 241 #[iv vx, iv vy, iv vz, iv vu, iv vp, iv vq, iv nav, iv nbv, iv fav, iv lav, iv ncv, iv ndv, iv fbv, iv lbv, iv rnv, rv b5, iv prv, rv b6, iv vv, un, un, un, un] [(.int (6 : Int32)), (.int vv), (.ref b6)]))
    refine Ends.go (fun _ => XS.iushr X8.here hx rfl (hb hby at_241) rfl) ?_
    show Ends p.tables e below G (T8.setTop (mkF m 242 #[iv vx, iv vy, iv vz, iv vu, iv vp, iv vq, iv nav, iv nbv, iv fav, iv lav, iv ncv, iv ndv, iv fbv, iv lbv, iv rnv, rv b5, iv prv, rv b6, iv vv, un, un, un, un] [(.int ((vv.toUInt32 >>> ((6 : Int32) &&& 31).toUInt32).toInt32)), (.ref b6)]))
    refine Ends.go (fun _ => AF.ldJ VW8 X8 hx hZ rfl (j := ((vv.toUInt32 >>> ((6 : Int32) &&& 31).toUInt32).toInt32)) (i := (val / 64)) (own_sh6 hval hval6) (by omega) (v := (.long (Wn8 (val / 64)))) rfl (g := (mkF m 242 #[iv vx, iv vy, iv vz, iv vu, iv vp, iv vq, iv nav, iv nbv, iv fav, iv lav, iv ncv, iv ndv, iv fbv, iv lbv, iv rnv, rv b5, iv prv, rv b6, iv vv, un, un, un, un] [(.int ((vv.toUInt32 >>> ((6 : Int32) &&& 31).toUInt32).toInt32)), (.ref b6)])) rfl rfl (hb hby at_242) _) ?_
    show Ends p.tables e below G (T8.setTop (mkF m 243 #[iv vx, iv vy, iv vz, iv vu, iv vp, iv vq, iv nav, iv nbv, iv fav, iv lav, iv ncv, iv ndv, iv fbv, iv lbv, iv rnv, rv b5, iv prv, rv b6, iv vv, un, un, un, un] [(.long (Wn8 (val / 64)))]))
    refine Ends.go (fun _ => XS.iload X8.here hx rfl (hb hby at_243) rfl) ?_
    show Ends p.tables e below G (T8.setTop (mkF m 245 #[iv vx, iv vy, iv vz, iv vu, iv vp, iv vq, iv nav, iv nbv, iv fav, iv lav, iv ncv, iv ndv, iv fbv, iv lbv, iv rnv, rv b5, iv prv, rv b6, iv vv, un, un, un, un] [(.int vv), (.long (Wn8 (val / 64)))]))
    refine Ends.go (fun _ => XS.bipush X8.here hx rfl (hb hby at_245)) ?_
    show Ends p.tables e below G (T8.setTop (mkF m 247 #[iv vx, iv vy, iv vz, iv vu, iv vp, iv vq, iv nav, iv nbv, iv fav, iv lav, iv ncv, iv ndv, iv fbv, iv lbv, iv rnv, rv b5, iv prv, rv b6, iv vv, un, un, un, un] [(.int (63 : Int32)), (.int vv), (.long (Wn8 (val / 64)))]))
    refine Ends.go (fun _ => XS.iand X8.here hx rfl (hb hby at_247) rfl) ?_
    show Ends p.tables e below G (T8.setTop (mkF m 248 #[iv vx, iv vy, iv vz, iv vu, iv vp, iv vq, iv nav, iv nbv, iv fav, iv lav, iv ncv, iv ndv, iv fbv, iv lbv, iv rnv, rv b5, iv prv, rv b6, iv vv, un, un, un, un] [(.int (vv &&& (63 : Int32))), (.long (Wn8 (val / 64)))]))
    refine Ends.go (fun _ => XS.lushr X8.here hx rfl (hb hby at_248) rfl) ?_
    show Ends p.tables e below G (T8.setTop (mkF m 249 #[iv vx, iv vy, iv vz, iv vu, iv vp, iv vq, iv nav, iv nbv, iv fav, iv lav, iv ncv, iv ndv, iv fbv, iv lbv, iv rnv, rv b5, iv prv, rv b6, iv vv, un, un, un, un] [(.long (((Wn8 (val / 64)).toUInt64 >>> ((vv &&& (63 : Int32)) &&& 0x3f).toInt64.toUInt64).toInt64))]))
    refine Ends.go (fun _ => XS.lconst X8.here hx rfl (hb hby at_249)) ?_
    show Ends p.tables e below G (T8.setTop (mkF m 250 #[iv vx, iv vy, iv vz, iv vu, iv vp, iv vq, iv nav, iv nbv, iv fav, iv lav, iv ncv, iv ndv, iv fbv, iv lbv, iv rnv, rv b5, iv prv, rv b6, iv vv, un, un, un, un] [(.long (1 : Int64)), (.long (((Wn8 (val / 64)).toUInt64 >>> ((vv &&& (63 : Int32)) &&& 0x3f).toInt64.toUInt64).toInt64))]))
    refine Ends.go (fun _ => XS.land X8.here hx rfl (hb hby at_250) rfl) ?_
    show Ends p.tables e below G (T8.setTop (mkF m 251 #[iv vx, iv vy, iv vz, iv vu, iv vp, iv vq, iv nav, iv nbv, iv fav, iv lav, iv ncv, iv ndv, iv fbv, iv lbv, iv rnv, rv b5, iv prv, rv b6, iv vv, un, un, un, un] [(.long ((((Wn8 (val / 64)).toUInt64 >>> ((vv &&& (63 : Int32)) &&& 0x3f).toInt64.toUInt64).toInt64) &&& (1 : Int64)))]))
    refine Ends.go (fun _ => XS.lconst X8.here hx rfl (hb hby at_251)) ?_
    show Ends p.tables e below G (T8.setTop (mkF m 252 #[iv vx, iv vy, iv vz, iv vu, iv vp, iv vq, iv nav, iv nbv, iv fav, iv lav, iv ncv, iv ndv, iv fbv, iv lbv, iv rnv, rv b5, iv prv, rv b6, iv vv, un, un, un, un] [(.long (0 : Int64)), (.long ((((Wn8 (val / 64)).toUInt64 >>> ((vv &&& (63 : Int32)) &&& 0x3f).toInt64.toUInt64).toInt64) &&& (1 : Int64)))]))
    refine Ends.go (fun _ => XS.lcmp X8.here hx rfl (hb hby at_252) rfl) ?_
    show Ends p.tables e below G (T8.setTop (mkF m 253 #[iv vx, iv vy, iv vz, iv vu, iv vp, iv vq, iv nav, iv nbv, iv fav, iv lav, iv ncv, iv ndv, iv fbv, iv lbv, iv rnv, rv b5, iv prv, rv b6, iv vv, un, un, un, un] [(.int (lcmpW ((((Wn8 (val / 64)).toUInt64 >>> ((vv &&& (63 : Int32)) &&& 0x3f).toInt64.toUInt64).toInt64) &&& (1 : Int64)) (0 : Int64)))]))
    have tail325 : ∀ (bv i1 i2 : Int32), ((bv = 1 ∧ bt Wn8 val = true) ∨ (bv = 0 ∧ ¬ bt Wn8 val = true)) → ((i1 = 1 ∧ (1 ≤ rn ∧ q0 ≤ val ∧ val ≤ q1)) ∨ (i1 = 0 ∧ ¬ (1 ≤ rn ∧ q0 ≤ val ∧ val ≤ q1))) → ((i2 = 1 ∧ (2 ≤ rn ∧ q2 ≤ val ∧ val ≤ q3)) ∨ (i2 = 0 ∧ ¬ (2 ≤ rn ∧ q2 ≤ val ∧ val ≤ q3))) → Ends p.tables e below G (T8.setTop (mkF m 325 #[iv vx, iv vy, iv vz, iv vu, iv vp, iv vq, iv nav, iv nbv, iv fav, iv lav, iv ncv, iv ndv, iv fbv, iv lbv, iv rnv, rv b5, iv prv, rv b6, iv vv, iv bv, iv i1, iv i2, un] [])) := by
      intro bv i1 i2 hbt h1 h2
      have fin : ∀ (xe : Int32), xe = bv → Ends p.tables e below G (T8.setTop (mkF m 349 #[iv vx, iv vy, iv vz, iv vu, iv vp, iv vq, iv nav, iv nbv, iv fav, iv lav, iv ncv, iv ndv, iv fbv, iv lbv, iv rnv, rv b5, iv prv, rv b6, iv vv, iv bv, iv i1, iv i2, iv xe] [])) := by
        intro xe hxe
        refine Ends.go (fun _ => XS.iload X8.here hx rfl (hb hby at_349) rfl) ?_
        show Ends p.tables e below G (T8.setTop (mkF m 351 #[iv vx, iv vy, iv vz, iv vu, iv vp, iv vq, iv nav, iv nbv, iv fav, iv lav, iv ncv, iv ndv, iv fbv, iv lbv, iv rnv, rv b5, iv prv, rv b6, iv vv, iv bv, iv i1, iv i2, iv xe] [(.int bv)]))
        refine Ends.go (fun _ => XS.iload X8.here hx rfl (hb hby at_351) rfl) ?_
        show Ends p.tables e below G (T8.setTop (mkF m 353 #[iv vx, iv vy, iv vz, iv vu, iv vp, iv vq, iv nav, iv nbv, iv fav, iv lav, iv ncv, iv ndv, iv fbv, iv lbv, iv rnv, rv b5, iv prv, rv b6, iv vv, iv bv, iv i1, iv i2, iv xe] [(.int xe), (.int bv)]))
        refine Ends.go (fun _ => XS.icmpNo X8.here hx rfl (hb hby at_353) rfl (teq (hxe.symm : bv = xe)).2) ?_
        show Ends p.tables e below G (T8.setTop (mkF m 356 #[iv vx, iv vy, iv vz, iv vu, iv vp, iv vq, iv nav, iv nbv, iv fav, iv lav, iv ncv, iv ndv, iv fbv, iv lbv, iv rnv, rv b5, iv prv, rv b6, iv vv, iv bv, iv i1, iv i2, iv xe] []))
        refine Ends.go (fun _ => XS.iconst X8.here hx rfl (hb hby at_356)) ?_
        show Ends p.tables e below G (T8.setTop (mkF m 357 #[iv vx, iv vy, iv vz, iv vu, iv vp, iv vq, iv nav, iv nbv, iv fav, iv lav, iv ncv, iv ndv, iv fbv, iv lbv, iv rnv, rv b5, iv prv, rv b6, iv vv, iv bv, iv i1, iv i2, iv xe] [(.int (1 : Int32))]))
        refine Ends.go (fun _ => XS.goto X8.here hx rfl (pc0 := 357) (pc' := 361) rfl (hb hby at_357) (by decide) (by decide)) ?_
        show Ends p.tables e below G (T8.setTop (mkF m 361 #[iv vx, iv vy, iv vz, iv vu, iv vp, iv vq, iv nav, iv nbv, iv fav, iv lav, iv ncv, iv ndv, iv fbv, iv lbv, iv rnv, rv b5, iv prv, rv b6, iv vv, iv bv, iv i1, iv i2, iv xe] [(.int (1 : Int32))]))
        refine own_finS (t := .boolean) X8 hx Bd.returns (by simp) Bd.notSynchronized (hb hby at_361) (Q := (Q0 Z vx vy vz vu vp vq h0 n0)) hG (by decide) (by decide) ?_
        show (Q0 Z vx vy vz vu vp vq h0 n0) _ T8.heap _
        exact ⟨rfl, N8⟩
      refine Ends.go (fun _ => XS.iload X8.here hx rfl (hb hby at_325) rfl) ?_
      show Ends p.tables e below G (T8.setTop (mkF m 327 #[iv vx, iv vy, iv vz, iv vu, iv vp, iv vq, iv nav, iv nbv, iv fav, iv lav, iv ncv, iv ndv, iv fbv, iv lbv, iv rnv, rv b5, iv prv, rv b6, iv vv, iv bv, iv i1, iv i2, un] [(.int vv)]))
      refine Ends.go (fun _ => XS.iload X8.here hx rfl (hb hby at_327) rfl) ?_
      show Ends p.tables e below G (T8.setTop (mkF m 329 #[iv vx, iv vy, iv vz, iv vu, iv vp, iv vq, iv nav, iv nbv, iv fav, iv lav, iv ncv, iv ndv, iv fbv, iv lbv, iv rnv, rv b5, iv prv, rv b6, iv vv, iv bv, iv i1, iv i2, un] [(.int prv), (.int vv)]))
      by_cases qp : val = pre
      · refine Ends.go (fun _ => XS.icmpYes X8.here hx rfl (pc0 := 329) (pc' := 342) rfl (hb hby at_329) rfl (teq ((own_eqn hval hpre).mpr qp : vv = prv)).1 (by decide) (by decide)) ?_
        show Ends p.tables e below G (T8.setTop (mkF m 342 #[iv vx, iv vy, iv vz, iv vu, iv vp, iv vq, iv nav, iv nbv, iv fav, iv lav, iv ncv, iv ndv, iv fbv, iv lbv, iv rnv, rv b5, iv prv, rv b6, iv vv, iv bv, iv i1, iv i2, un] []))
        refine Ends.go (fun _ => XS.iconst X8.here hx rfl (hb hby at_342)) ?_
        show Ends p.tables e below G (T8.setTop (mkF m 343 #[iv vx, iv vy, iv vz, iv vu, iv vp, iv vq, iv nav, iv nbv, iv fav, iv lav, iv ncv, iv ndv, iv fbv, iv lbv, iv rnv, rv b5, iv prv, rv b6, iv vv, iv bv, iv i1, iv i2, un] [(.int (1 : Int32))]))
        refine Ends.go (fun _ => XS.goto X8.here hx rfl (pc0 := 343) (pc' := 347) rfl (hb hby at_343) (by decide) (by decide)) ?_
        show Ends p.tables e below G (T8.setTop (mkF m 347 #[iv vx, iv vy, iv vz, iv vu, iv vp, iv vq, iv nav, iv nbv, iv fav, iv lav, iv ncv, iv ndv, iv fbv, iv lbv, iv rnv, rv b5, iv prv, rv b6, iv vv, iv bv, iv i1, iv i2, un] [(.int (1 : Int32))]))
        refine Ends.go (fun _ => XS.istore X8.here hx rfl (hb hby at_347) rfl (l' := #[iv vx, iv vy, iv vz, iv vu, iv vp, iv vq, iv nav, iv nbv, iv fav, iv lav, iv ncv, iv ndv, iv fbv, iv lbv, iv rnv, rv b5, iv prv, rv b6, iv vv, iv bv, iv i1, iv i2, iv (1 : Int32)]) rfl) ?_
        show Ends p.tables e below G (T8.setTop (mkF m 349 #[iv vx, iv vy, iv vz, iv vu, iv vp, iv vq, iv nav, iv nbv, iv fav, iv lav, iv ncv, iv ndv, iv fbv, iv lbv, iv rnv, rv b5, iv prv, rv b6, iv vv, iv bv, iv i1, iv i2, iv (1 : Int32)] []))
        exact fin _ (hbt.elim (fun a => a.1.symm) (fun a => absurd (hkey.mpr (Or.inl qp)) a.2))
      · refine Ends.go (fun _ => XS.icmpNo X8.here hx rfl (hb hby at_329) rfl (feq (fun z => qp ((own_eqn hval hpre).mp z) : ¬ (vv = prv))).1) ?_
        show Ends p.tables e below G (T8.setTop (mkF m 332 #[iv vx, iv vy, iv vz, iv vu, iv vp, iv vq, iv nav, iv nbv, iv fav, iv lav, iv ncv, iv ndv, iv fbv, iv lbv, iv rnv, rv b5, iv prv, rv b6, iv vv, iv bv, iv i1, iv i2, un] []))
        refine Ends.go (fun _ => XS.iload X8.here hx rfl (hb hby at_332) rfl) ?_
        show Ends p.tables e below G (T8.setTop (mkF m 334 #[iv vx, iv vy, iv vz, iv vu, iv vp, iv vq, iv nav, iv nbv, iv fav, iv lav, iv ncv, iv ndv, iv fbv, iv lbv, iv rnv, rv b5, iv prv, rv b6, iv vv, iv bv, iv i1, iv i2, un] [(.int i1)]))
        rcases h1 with ⟨c1, c2⟩ | ⟨c1, c2⟩
        · refine Ends.go (fun _ => XS.ifYes X8.here hx rfl (pc0 := 334) (pc' := 342) rfl (hb hby at_334) rfl ((if0 _ _).trans (feq (by rw [c1]; decide : ¬ (i1 = (0 : Int32)))).2) (by decide) (by decide)) ?_
          show Ends p.tables e below G (T8.setTop (mkF m 342 #[iv vx, iv vy, iv vz, iv vu, iv vp, iv vq, iv nav, iv nbv, iv fav, iv lav, iv ncv, iv ndv, iv fbv, iv lbv, iv rnv, rv b5, iv prv, rv b6, iv vv, iv bv, iv i1, iv i2, un] []))
          refine Ends.go (fun _ => XS.iconst X8.here hx rfl (hb hby at_342)) ?_
          show Ends p.tables e below G (T8.setTop (mkF m 343 #[iv vx, iv vy, iv vz, iv vu, iv vp, iv vq, iv nav, iv nbv, iv fav, iv lav, iv ncv, iv ndv, iv fbv, iv lbv, iv rnv, rv b5, iv prv, rv b6, iv vv, iv bv, iv i1, iv i2, un] [(.int (1 : Int32))]))
          refine Ends.go (fun _ => XS.goto X8.here hx rfl (pc0 := 343) (pc' := 347) rfl (hb hby at_343) (by decide) (by decide)) ?_
          show Ends p.tables e below G (T8.setTop (mkF m 347 #[iv vx, iv vy, iv vz, iv vu, iv vp, iv vq, iv nav, iv nbv, iv fav, iv lav, iv ncv, iv ndv, iv fbv, iv lbv, iv rnv, rv b5, iv prv, rv b6, iv vv, iv bv, iv i1, iv i2, un] [(.int (1 : Int32))]))
          refine Ends.go (fun _ => XS.istore X8.here hx rfl (hb hby at_347) rfl (l' := #[iv vx, iv vy, iv vz, iv vu, iv vp, iv vq, iv nav, iv nbv, iv fav, iv lav, iv ncv, iv ndv, iv fbv, iv lbv, iv rnv, rv b5, iv prv, rv b6, iv vv, iv bv, iv i1, iv i2, iv (1 : Int32)]) rfl) ?_
          show Ends p.tables e below G (T8.setTop (mkF m 349 #[iv vx, iv vy, iv vz, iv vu, iv vp, iv vq, iv nav, iv nbv, iv fav, iv lav, iv ncv, iv ndv, iv fbv, iv lbv, iv rnv, rv b5, iv prv, rv b6, iv vv, iv bv, iv i1, iv i2, iv (1 : Int32)] []))
          exact fin _ (hbt.elim (fun a => a.1.symm) (fun a => absurd (hkey.mpr (Or.inr (Or.inl c2))) a.2))
        · refine Ends.go (fun _ => XS.ifNo X8.here hx rfl (hb hby at_334) rfl ((if0 _ _).trans (teq (c1 : i1 = (0 : Int32))).2)) ?_
          show Ends p.tables e below G (T8.setTop (mkF m 337 #[iv vx, iv vy, iv vz, iv vu, iv vp, iv vq, iv nav, iv nbv, iv fav, iv lav, iv ncv, iv ndv, iv fbv, iv lbv, iv rnv, rv b5, iv prv, rv b6, iv vv, iv bv, iv i1, iv i2, un] []))
          refine Ends.go (fun _ => XS.iload X8.here hx rfl (hb hby at_337) rfl) ?_
          show Ends p.tables e below G (T8.setTop (mkF m 339 #[iv vx, iv vy, iv vz, iv vu, iv vp, iv vq, iv nav, iv nbv, iv fav, iv lav, iv ncv, iv ndv, iv fbv, iv lbv, iv rnv, rv b5, iv prv, rv b6, iv vv, iv bv, iv i1, iv i2, un] [(.int i2)]))
          rcases h2 with ⟨d1, d2⟩ | ⟨d1, d2⟩
          · refine Ends.go (fun _ => XS.ifNo X8.here hx rfl (hb hby at_339) rfl ((if0 _ _).trans (feq (by rw [d1]; decide : ¬ (i2 = (0 : Int32)))).1)) ?_
            show Ends p.tables e below G (T8.setTop (mkF m 342 #[iv vx, iv vy, iv vz, iv vu, iv vp, iv vq, iv nav, iv nbv, iv fav, iv lav, iv ncv, iv ndv, iv fbv, iv lbv, iv rnv, rv b5, iv prv, rv b6, iv vv, iv bv, iv i1, iv i2, un] []))
            refine Ends.go (fun _ => XS.iconst X8.here hx rfl (hb hby at_342)) ?_
            show Ends p.tables e below G (T8.setTop (mkF m 343 #[iv vx, iv vy, iv vz, iv vu, iv vp, iv vq, iv nav, iv nbv, iv fav, iv lav, iv ncv, iv ndv, iv fbv, iv lbv, iv rnv, rv b5, iv prv, rv b6, iv vv, iv bv, iv i1, iv i2, un] [(.int (1 : Int32))]))
            refine Ends.go (fun _ => XS.goto X8.here hx rfl (pc0 := 343) (pc' := 347) rfl (hb hby at_343) (by decide) (by decide)) ?_
            show Ends p.tables e below G (T8.setTop (mkF m 347 #[iv vx, iv vy, iv vz, iv vu, iv vp, iv vq, iv nav, iv nbv, iv fav, iv lav, iv ncv, iv ndv, iv fbv, iv lbv, iv rnv, rv b5, iv prv, rv b6, iv vv, iv bv, iv i1, iv i2, un] [(.int (1 : Int32))]))
            refine Ends.go (fun _ => XS.istore X8.here hx rfl (hb hby at_347) rfl (l' := #[iv vx, iv vy, iv vz, iv vu, iv vp, iv vq, iv nav, iv nbv, iv fav, iv lav, iv ncv, iv ndv, iv fbv, iv lbv, iv rnv, rv b5, iv prv, rv b6, iv vv, iv bv, iv i1, iv i2, iv (1 : Int32)]) rfl) ?_
            show Ends p.tables e below G (T8.setTop (mkF m 349 #[iv vx, iv vy, iv vz, iv vu, iv vp, iv vq, iv nav, iv nbv, iv fav, iv lav, iv ncv, iv ndv, iv fbv, iv lbv, iv rnv, rv b5, iv prv, rv b6, iv vv, iv bv, iv i1, iv i2, iv (1 : Int32)] []))
            exact fin _ (hbt.elim (fun a => a.1.symm) (fun a => absurd (hkey.mpr (Or.inr (Or.inr d2))) a.2))
          · refine Ends.go (fun _ => XS.ifYes X8.here hx rfl (pc0 := 339) (pc' := 346) rfl (hb hby at_339) rfl ((if0 _ _).trans (teq (d1 : i2 = (0 : Int32))).1) (by decide) (by decide)) ?_
            show Ends p.tables e below G (T8.setTop (mkF m 346 #[iv vx, iv vy, iv vz, iv vu, iv vp, iv vq, iv nav, iv nbv, iv fav, iv lav, iv ncv, iv ndv, iv fbv, iv lbv, iv rnv, rv b5, iv prv, rv b6, iv vv, iv bv, iv i1, iv i2, un] []))
            refine Ends.go (fun _ => XS.iconst X8.here hx rfl (hb hby at_346)) ?_
            show Ends p.tables e below G (T8.setTop (mkF m 347 #[iv vx, iv vy, iv vz, iv vu, iv vp, iv vq, iv nav, iv nbv, iv fav, iv lav, iv ncv, iv ndv, iv fbv, iv lbv, iv rnv, rv b5, iv prv, rv b6, iv vv, iv bv, iv i1, iv i2, un] [(.int (0 : Int32))]))
            refine Ends.go (fun _ => XS.istore X8.here hx rfl (hb hby at_347) rfl (l' := #[iv vx, iv vy, iv vz, iv vu, iv vp, iv vq, iv nav, iv nbv, iv fav, iv lav, iv ncv, iv ndv, iv fbv, iv lbv, iv rnv, rv b5, iv prv, rv b6, iv vv, iv bv, iv i1, iv i2, iv (0 : Int32)]) rfl) ?_
            show Ends p.tables e below G (T8.setTop (mkF m 349 #[iv vx, iv vy, iv vz, iv vu, iv vp, iv vq, iv nav, iv nbv, iv fav, iv lav, iv ncv, iv ndv, iv fbv, iv lbv, iv rnv, rv b5, iv prv, rv b6, iv vv, iv bv, iv i1, iv i2, iv (0 : Int32)] []))
            exact fin _ (hbt.elim (fun a => absurd (hkey.mp a.2) (fun o => o.elim qp fun o => o.elim c2 d2)) (fun a => a.1.symm))
    have tail294 : ∀ (bv i1 : Int32), ((bv = 1 ∧ bt Wn8 val = true) ∨ (bv = 0 ∧ ¬ bt Wn8 val = true)) → ((i1 = 1 ∧ (1 ≤ rn ∧ q0 ≤ val ∧ val ≤ q1)) ∨ (i1 = 0 ∧ ¬ (1 ≤ rn ∧ q0 ≤ val ∧ val ≤ q1))) → Ends p.tables e below G (T8.setTop (mkF m 294 #[iv vx, iv vy, iv vz, iv vu, iv vp, iv vq, iv nav, iv nbv, iv fav, iv lav, iv ncv, iv ndv, iv fbv, iv lbv, iv rnv, rv b5, iv prv, rv b6, iv vv, iv bv, iv i1, un, un] [])) := by
      intro bv i1 hbt h1
      refine Ends.go (fun _ => XS.iload X8.here hx rfl (hb hby at_294) rfl) ?_
      show Ends p.tables e below G (T8.setTop (mkF m 296 #[iv vx, iv vy, iv vz, iv vu, iv vp, iv vq, iv nav, iv nbv, iv fav, iv lav, iv ncv, iv ndv, iv fbv, iv lbv, iv rnv, rv b5, iv prv, rv b6, iv vv, iv bv, iv i1, un, un] [(.int rnv)]))
      refine Ends.go (fun _ => XS.iconst X8.here hx rfl (hb hby at_296)) ?_
      show Ends p.tables e below G (T8.setTop (mkF m 297 #[iv vx, iv vy, iv vz, iv vu, iv vp, iv vq, iv nav, iv nbv, iv fav, iv lav, iv ncv, iv ndv, iv fbv, iv lbv, iv rnv, rv b5, iv prv, rv b6, iv vv, iv bv, iv i1, un, un] [(.int (2 : Int32)), (.int rnv)]))
      by_cases k1 : rn < 2
      · refine Ends.go (fun _ => XS.icmpYes X8.here hx rfl (pc0 := 297) (pc' := 322) rfl (hb hby at_297) rfl (tlt ((own_lt hrn (b := 2) rfl).mpr k1 : rnv < (2 : Int32))).1 (by decide) (by decide)) ?_
        show Ends p.tables e below G (T8.setTop (mkF m 322 #[iv vx, iv vy, iv vz, iv vu, iv vp, iv vq, iv nav, iv nbv, iv fav, iv lav, iv ncv, iv ndv, iv fbv, iv lbv, iv rnv, rv b5, iv prv, rv b6, iv vv, iv bv, iv i1, un, un] []))
        refine Ends.go (fun _ => XS.iconst X8.here hx rfl (hb hby at_322)) ?_
        show Ends p.tables e below G (T8.setTop (mkF m 323 #[iv vx, iv vy, iv vz, iv vu, iv vp, iv vq, iv nav, iv nbv, iv fav, iv lav, iv ncv, iv ndv, iv fbv, iv lbv, iv rnv, rv b5, iv prv, rv b6, iv vv, iv bv, iv i1, un, un] [(.int (0 : Int32))]))
        refine Ends.go (fun _ => XS.istore X8.here hx rfl (hb hby at_323) rfl (l' := #[iv vx, iv vy, iv vz, iv vu, iv vp, iv vq, iv nav, iv nbv, iv fav, iv lav, iv ncv, iv ndv, iv fbv, iv lbv, iv rnv, rv b5, iv prv, rv b6, iv vv, iv bv, iv i1, iv (0 : Int32), un]) rfl) ?_
        show Ends p.tables e below G (T8.setTop (mkF m 325 #[iv vx, iv vy, iv vz, iv vu, iv vp, iv vq, iv nav, iv nbv, iv fav, iv lav, iv ncv, iv ndv, iv fbv, iv lbv, iv rnv, rv b5, iv prv, rv b6, iv vv, iv bv, iv i1, iv (0 : Int32), un] []))
        exact tail325 _ _ _ hbt h1 (Or.inr ⟨rfl, fun o => absurd o.1 (by omega)⟩)
      · refine Ends.go (fun _ => XS.icmpNo X8.here hx rfl (hb hby at_297) rfl (flt (fun z => k1 ((own_lt hrn (b := 2) rfl).mp z) : ¬ (rnv < (2 : Int32)))).1) ?_
        show Ends p.tables e below G (T8.setTop (mkF m 300 #[iv vx, iv vy, iv vz, iv vu, iv vp, iv vq, iv nav, iv nbv, iv fav, iv lav, iv ncv, iv ndv, iv fbv, iv lbv, iv rnv, rv b5, iv prv, rv b6, iv vv, iv bv, iv i1, un, un] []))
        refine Ends.go (fun _ => XS.aload X8.here hx rfl (hb hby at_300) rfl rfl) ?_
        show Ends p.tables e below G (T8.setTop (mkF m 302 #[iv vx, iv vy, iv vz, iv vu, iv vp, iv vq, iv nav, iv nbv, iv fav, iv lav, iv ncv, iv ndv, iv fbv, iv lbv, iv rnv, rv b5, iv prv, rv b6, iv vv, iv bv, iv i1, un, un] [(.ref b5)]))
        refine Ends.go (fun _ => XS.iconst X8.here hx rfl (hb hby at_302)) ?_
        show Ends p.tables e below G (T8.setTop (mkF m 303 #[iv vx, iv vy, iv vz, iv vu, iv vp, iv vq, iv nav, iv nbv, iv fav, iv lav, iv ncv, iv ndv, iv fbv, iv lbv, iv rnv, rv b5, iv prv, rv b6, iv vv, iv bv, iv i1, un, un] [(.int (2 : Int32)), (.ref b5)]))
        refine Ends.go (fun _ => AF.ldC f8_V_b5 X8 hx hZ rfl (j := (2 : Int32)) (i := 2) (by decide) (by decide) (v := (.int x2)) rfl (g := (mkF m 303 #[iv vx, iv vy, iv vz, iv vu, iv vp, iv vq, iv nav, iv nbv, iv fav, iv lav, iv ncv, iv ndv, iv fbv, iv lbv, iv rnv, rv b5, iv prv, rv b6, iv vv, iv bv, iv i1, un, un] [(.int (2 : Int32)), (.ref b5)])) rfl rfl (hb hby at_303) _) ?_
        show Ends p.tables e below G (T8.setTop (mkF m 304 #[iv vx, iv vy, iv vz, iv vu, iv vp, iv vq, iv nav, iv nbv, iv fav, iv lav, iv ncv, iv ndv, iv fbv, iv lbv, iv rnv, rv b5, iv prv, rv b6, iv vv, iv bv, iv i1, un, un] [(.int x2)]))
        refine Ends.go (fun _ => XS.iload X8.here hx rfl (hb hby at_304) rfl) ?_
        show Ends p.tables e below G (T8.setTop (mkF m 306 #[iv vx, iv vy, iv vz, iv vu, iv vp, iv vq, iv nav, iv nbv, iv fav, iv lav, iv ncv, iv ndv, iv fbv, iv lbv, iv rnv, rv b5, iv prv, rv b6, iv vv, iv bv, iv i1, un, un] [(.int vv), (.int x2)]))
        by_cases k2 : val < q2
        · refine Ends.go (fun _ => XS.icmpYes X8.here hx rfl (pc0 := 306) (pc' := 322) rfl (hb hby at_306) rfl (tlt ((own_lt hval hx2).mpr k2 : vv < x2)).2.2.1 (by decide) (by decide)) ?_
          show Ends p.tables e below G (T8.setTop (mkF m 322 #[iv vx, iv vy, iv vz, iv vu, iv vp, iv vq, iv nav, iv nbv, iv fav, iv lav, iv ncv, iv ndv, iv fbv, iv lbv, iv rnv, rv b5, iv prv, rv b6, iv vv, iv bv, iv i1, un, un] []))
          refine Ends.go (fun _ => XS.iconst X8.here hx rfl (hb hby at_322)) ?_
          show Ends p.tables e below G (T8.setTop (mkF m 323 #[iv vx, iv vy, iv vz, iv vu, iv vp, iv vq, iv nav, iv nbv, iv fav, iv lav, iv ncv, iv ndv, iv fbv, iv lbv, iv rnv, rv b5, iv prv, rv b6, iv vv, iv bv, iv i1, un, un] [(.int (0 : Int32))]))
          refine Ends.go (fun _ => XS.istore X8.here hx rfl (hb hby at_323) rfl (l' := #[iv vx, iv vy, iv vz, iv vu, iv vp, iv vq, iv nav, iv nbv, iv fav, iv lav, iv ncv, iv ndv, iv fbv, iv lbv, iv rnv, rv b5, iv prv, rv b6, iv vv, iv bv, iv i1, iv (0 : Int32), un]) rfl) ?_
          show Ends p.tables e below G (T8.setTop (mkF m 325 #[iv vx, iv vy, iv vz, iv vu, iv vp, iv vq, iv nav, iv nbv, iv fav, iv lav, iv ncv, iv ndv, iv fbv, iv lbv, iv rnv, rv b5, iv prv, rv b6, iv vv, iv bv, iv i1, iv (0 : Int32), un] []))
          exact tail325 _ _ _ hbt h1 (Or.inr ⟨rfl, fun o => absurd o.2.1 (by omega)⟩)
        · refine Ends.go (fun _ => XS.icmpNo X8.here hx rfl (hb hby at_306) rfl (flt (fun z => k2 ((own_lt hval hx2).mp z) : ¬ (vv < x2))).2.2.1) ?_
          show Ends p.tables e below G (T8.setTop (mkF m 309 #[iv vx, iv vy, iv vz, iv vu, iv vp, iv vq, iv nav, iv nbv, iv fav, iv lav, iv ncv, iv ndv, iv fbv, iv lbv, iv rnv, rv b5, iv prv, rv b6, iv vv, iv bv, iv i1, un, un] []))
          refine Ends.go (fun _ => XS.iload X8.here hx rfl (hb hby at_309) rfl) ?_
          show Ends p.tables e below G (T8.setTop (mkF m 311 #[iv vx, iv vy, iv vz, iv vu, iv vp, iv vq, iv nav, iv nbv, iv fav, iv lav, iv ncv, iv ndv, iv fbv, iv lbv, iv rnv, rv b5, iv prv, rv b6, iv vv, iv bv, iv i1, un, un] [(.int vv)]))
          refine Ends.go (fun _ => XS.aload X8.here hx rfl (hb hby at_311) rfl rfl) ?_
          show Ends p.tables e below G (T8.setTop (mkF m 313 #[iv vx, iv vy, iv vz, iv vu, iv vp, iv vq, iv nav, iv nbv, iv fav, iv lav, iv ncv, iv ndv, iv fbv, iv lbv, iv rnv, rv b5, iv prv, rv b6, iv vv, iv bv, iv i1, un, un] [(.ref b5), (.int vv)]))
          refine Ends.go (fun _ => XS.iconst X8.here hx rfl (hb hby at_313)) ?_
          show Ends p.tables e below G (T8.setTop (mkF m 314 #[iv vx, iv vy, iv vz, iv vu, iv vp, iv vq, iv nav, iv nbv, iv fav, iv lav, iv ncv, iv ndv, iv fbv, iv lbv, iv rnv, rv b5, iv prv, rv b6, iv vv, iv bv, iv i1, un, un] [(.int (3 : Int32)), (.ref b5), (.int vv)]))
          refine Ends.go (fun _ => AF.ldC f8_V_b5 X8 hx hZ rfl (j := (3 : Int32)) (i := 3) (by decide) (by decide) (v := (.int x3)) rfl (g := (mkF m 314 #[iv vx, iv vy, iv vz, iv vu, iv vp, iv vq, iv nav, iv nbv, iv fav, iv lav, iv ncv, iv ndv, iv fbv, iv lbv, iv rnv, rv b5, iv prv, rv b6, iv vv, iv bv, iv i1, un, un] [(.int (3 : Int32)), (.ref b5), (.int vv)])) rfl rfl (hb hby at_314) _) ?_
          show Ends p.tables e below G (T8.setTop (mkF m 315 #[iv vx, iv vy, iv vz, iv vu, iv vp, iv vq, iv nav, iv nbv, iv fav, iv lav, iv ncv, iv ndv, iv fbv, iv lbv, iv rnv, rv b5, iv prv, rv b6, iv vv, iv bv, iv i1, un, un] [(.int x3), (.int vv)]))
          by_cases k3 : q3 < val
          · refine Ends.go (fun _ => XS.icmpYes X8.here hx rfl (pc0 := 315) (pc' := 322) rfl (hb hby at_315) rfl (tlt ((own_lt hx3 hval).mpr k3 : x3 < vv)).2.2.1 (by decide) (by decide)) ?_
            show Ends p.tables e below G (T8.setTop (mkF m 322 #[iv vx, iv vy, iv vz, iv vu, iv vp, iv vq, iv nav, iv nbv, iv fav, iv lav, iv ncv, iv ndv, iv fbv, iv lbv, iv rnv, rv b5, iv prv, rv b6, iv vv, iv bv, iv i1, un, un] []))
            refine Ends.go (fun _ => XS.iconst X8.here hx rfl (hb hby at_322)) ?_
            show Ends p.tables e below G (T8.setTop (mkF m 323 #[iv vx, iv vy, iv vz, iv vu, iv vp, iv vq, iv nav, iv nbv, iv fav, iv lav, iv ncv, iv ndv, iv fbv, iv lbv, iv rnv, rv b5, iv prv, rv b6, iv vv, iv bv, iv i1, un, un] [(.int (0 : Int32))]))
            refine Ends.go (fun _ => XS.istore X8.here hx rfl (hb hby at_323) rfl (l' := #[iv vx, iv vy, iv vz, iv vu, iv vp, iv vq, iv nav, iv nbv, iv fav, iv lav, iv ncv, iv ndv, iv fbv, iv lbv, iv rnv, rv b5, iv prv, rv b6, iv vv, iv bv, iv i1, iv (0 : Int32), un]) rfl) ?_
            show Ends p.tables e below G (T8.setTop (mkF m 325 #[iv vx, iv vy, iv vz, iv vu, iv vp, iv vq, iv nav, iv nbv, iv fav, iv lav, iv ncv, iv ndv, iv fbv, iv lbv, iv rnv, rv b5, iv prv, rv b6, iv vv, iv bv, iv i1, iv (0 : Int32), un] []))
            exact tail325 _ _ _ hbt h1 (Or.inr ⟨rfl, fun o => absurd o.2.2 (by omega)⟩)
          · refine Ends.go (fun _ => XS.icmpNo X8.here hx rfl (hb hby at_315) rfl (flt (fun z => k3 ((own_lt hx3 hval).mp z) : ¬ (x3 < vv))).2.2.1) ?_
            show Ends p.tables e below G (T8.setTop (mkF m 318 #[iv vx, iv vy, iv vz, iv vu, iv vp, iv vq, iv nav, iv nbv, iv fav, iv lav, iv ncv, iv ndv, iv fbv, iv lbv, iv rnv, rv b5, iv prv, rv b6, iv vv, iv bv, iv i1, un, un] []))
            refine Ends.go (fun _ => XS.iconst X8.here hx rfl (hb hby at_318)) ?_
            show Ends p.tables e below G (T8.setTop (mkF m 319 #[iv vx, iv vy, iv vz, iv vu, iv vp, iv vq, iv nav, iv nbv, iv fav, iv lav, iv ncv, iv ndv, iv fbv, iv lbv, iv rnv, rv b5, iv prv, rv b6, iv vv, iv bv, iv i1, un, un] [(.int (1 : Int32))]))
            refine Ends.go (fun _ => XS.goto X8.here hx rfl (pc0 := 319) (pc' := 323) rfl (hb hby at_319) (by decide) (by decide)) ?_
            show Ends p.tables e below G (T8.setTop (mkF m 323 #[iv vx, iv vy, iv vz, iv vu, iv vp, iv vq, iv nav, iv nbv, iv fav, iv lav, iv ncv, iv ndv, iv fbv, iv lbv, iv rnv, rv b5, iv prv, rv b6, iv vv, iv bv, iv i1, un, un] [(.int (1 : Int32))]))
            refine Ends.go (fun _ => XS.istore X8.here hx rfl (hb hby at_323) rfl (l' := #[iv vx, iv vy, iv vz, iv vu, iv vp, iv vq, iv nav, iv nbv, iv fav, iv lav, iv ncv, iv ndv, iv fbv, iv lbv, iv rnv, rv b5, iv prv, rv b6, iv vv, iv bv, iv i1, iv (1 : Int32), un]) rfl) ?_
            show Ends p.tables e below G (T8.setTop (mkF m 325 #[iv vx, iv vy, iv vz, iv vu, iv vp, iv vq, iv nav, iv nbv, iv fav, iv lav, iv ncv, iv ndv, iv fbv, iv lbv, iv rnv, rv b5, iv prv, rv b6, iv vv, iv bv, iv i1, iv (1 : Int32), un] []))
            exact tail325 _ _ _ hbt h1 (Or.inl ⟨rfl, by omega, by omega, by omega⟩)
    have tail263 : ∀ (bv : Int32), ((bv = 1 ∧ bt Wn8 val = true) ∨ (bv = 0 ∧ ¬ bt Wn8 val = true)) → Ends p.tables e below G (T8.setTop (mkF m 263 #[iv vx, iv vy, iv vz, iv vu, iv vp, iv vq, iv nav, iv nbv, iv fav, iv lav, iv ncv, iv ndv, iv fbv, iv lbv, iv rnv, rv b5, iv prv, rv b6, iv vv, iv bv, un, un, un] [])) := by
      intro bv hbt
      refine Ends.go (fun _ => XS.iload X8.here hx rfl (hb hby at_263) rfl) ?_
      show Ends p.tables e below G (T8.setTop (mkF m 265 #[iv vx, iv vy, iv vz, iv vu, iv vp, iv vq, iv nav, iv nbv, iv fav, iv lav, iv ncv, iv ndv, iv fbv, iv lbv, iv rnv, rv b5, iv prv, rv b6, iv vv, iv bv, un, un, un] [(.int rnv)]))
      refine Ends.go (fun _ => XS.iconst X8.here hx rfl (hb hby at_265)) ?_
      show Ends p.tables e below G (T8.setTop (mkF m 266 #[iv vx, iv vy, iv vz, iv vu, iv vp, iv vq, iv nav, iv nbv, iv fav, iv lav, iv ncv, iv ndv, iv fbv, iv lbv, iv rnv, rv b5, iv prv, rv b6, iv vv, iv bv, un, un, un] [(.int (1 : Int32)), (.int rnv)]))
      by_cases k1 : rn < 1
      · refine Ends.go (fun _ => XS.icmpYes X8.here hx rfl (pc0 := 266) (pc' := 291) rfl (hb hby at_266) rfl (tlt ((own_lt hrn (b := 1) rfl).mpr k1 : rnv < (1 : Int32))).1 (by decide) (by decide)) ?_
        show Ends p.tables e below G (T8.setTop (mkF m 291 #[iv vx, iv vy, iv vz, iv vu, iv vp, iv vq, iv nav, iv nbv, iv fav, iv lav, iv ncv, iv ndv, iv fbv, iv lbv, iv rnv, rv b5, iv prv, rv b6, iv vv, iv bv, un, un, un] []))
        refine Ends.go (fun _ => XS.iconst X8.here hx rfl (hb hby at_291)) ?_
        show Ends p.tables e below G (T8.setTop (mkF m 292 #[iv vx, iv vy, iv vz, iv vu, iv vp, iv vq, iv nav, iv nbv, iv fav, iv lav, iv ncv, iv ndv, iv fbv, iv lbv, iv rnv, rv b5, iv prv, rv b6, iv vv, iv bv, un, un, un] [(.int (0 : Int32))]))
        refine Ends.go (fun _ => XS.istore X8.here hx rfl (hb hby at_292) rfl (l' := #[iv vx, iv vy, iv vz, iv vu, iv vp, iv vq, iv nav, iv nbv, iv fav, iv lav, iv ncv, iv ndv, iv fbv, iv lbv, iv rnv, rv b5, iv prv, rv b6, iv vv, iv bv, iv (0 : Int32), un, un]) rfl) ?_
        show Ends p.tables e below G (T8.setTop (mkF m 294 #[iv vx, iv vy, iv vz, iv vu, iv vp, iv vq, iv nav, iv nbv, iv fav, iv lav, iv ncv, iv ndv, iv fbv, iv lbv, iv rnv, rv b5, iv prv, rv b6, iv vv, iv bv, iv (0 : Int32), un, un] []))
        exact tail294 _ _ hbt (Or.inr ⟨rfl, fun o => absurd o.1 (by omega)⟩)
      · refine Ends.go (fun _ => XS.icmpNo X8.here hx rfl (hb hby at_266) rfl (flt (fun z => k1 ((own_lt hrn (b := 1) rfl).mp z) : ¬ (rnv < (1 : Int32)))).1) ?_
        show Ends p.tables e below G (T8.setTop (mkF m 269 #[iv vx, iv vy, iv vz, iv vu, iv vp, iv vq, iv nav, iv nbv, iv fav, iv lav, iv ncv, iv ndv, iv fbv, iv lbv, iv rnv, rv b5, iv prv, rv b6, iv vv, iv bv, un, un, un] []))
        refine Ends.go (fun _ => XS.aload X8.here hx rfl (hb hby at_269) rfl rfl) ?_
        show Ends p.tables e below G (T8.setTop (mkF m 271 #[iv vx, iv vy, iv vz, iv vu, iv vp, iv vq, iv nav, iv nbv, iv fav, iv lav, iv ncv, iv ndv, iv fbv, iv lbv, iv rnv, rv b5, iv prv, rv b6, iv vv, iv bv, un, un, un] [(.ref b5)]))
        refine Ends.go (fun _ => XS.iconst X8.here hx rfl (hb hby at_271)) ?_
        show Ends p.tables e below G (T8.setTop (mkF m 272 #[iv vx, iv vy, iv vz, iv vu, iv vp, iv vq, iv nav, iv nbv, iv fav, iv lav, iv ncv, iv ndv, iv fbv, iv lbv, iv rnv, rv b5, iv prv, rv b6, iv vv, iv bv, un, un, un] [(.int (0 : Int32)), (.ref b5)]))
        refine Ends.go (fun _ => AF.ldC f8_V_b5 X8 hx hZ rfl (j := (0 : Int32)) (i := 0) (by decide) (by decide) (v := (.int x0)) rfl (g := (mkF m 272 #[iv vx, iv vy, iv vz, iv vu, iv vp, iv vq, iv nav, iv nbv, iv fav, iv lav, iv ncv, iv ndv, iv fbv, iv lbv, iv rnv, rv b5, iv prv, rv b6, iv vv, iv bv, un, un, un] [(.int (0 : Int32)), (.ref b5)])) rfl rfl (hb hby at_272) _) ?_
        show Ends p.tables e below G (T8.setTop (mkF m 273 #[iv vx, iv vy, iv vz, iv vu, iv vp, iv vq, iv nav, iv nbv, iv fav, iv lav, iv ncv, iv ndv, iv fbv, iv lbv, iv rnv, rv b5, iv prv, rv b6, iv vv, iv bv, un, un, un] [(.int x0)]))
        refine Ends.go (fun _ => XS.iload X8.here hx rfl (hb hby at_273) rfl) ?_
        show Ends p.tables e below G (T8.setTop (mkF m 275 #[iv vx, iv vy, iv vz, iv vu, iv vp, iv vq, iv nav, iv nbv, iv fav, iv lav, iv ncv, iv ndv, iv fbv, iv lbv, iv rnv, rv b5, iv prv, rv b6, iv vv, iv bv, un, un, un] [(.int vv), (.int x0)]))
        by_cases k2 : val < q0
        · refine Ends.go (fun _ => XS.icmpYes X8.here hx rfl (pc0 := 275) (pc' := 291) rfl (hb hby at_275) rfl (tlt ((own_lt hval hx0).mpr k2 : vv < x0)).2.2.1 (by decide) (by decide)) ?_
          show Ends p.tables e below G (T8.setTop (mkF m 291 #[iv vx, iv vy, iv vz, iv vu, iv vp, iv vq, iv nav, iv nbv, iv fav, iv lav, iv ncv, iv ndv, iv fbv, iv lbv, iv rnv, rv b5, iv prv, rv b6, iv vv, iv bv, un, un, un] []))
          refine Ends.go (fun _ => XS.iconst X8.here hx rfl (hb hby at_291)) ?_
          show Ends p.tables e below G (T8.setTop (mkF m 292 #[iv vx, iv vy, iv vz, iv vu, iv vp, iv vq, iv nav, iv nbv, iv fav, iv lav, iv ncv, iv ndv, iv fbv, iv lbv, iv rnv, rv b5, iv prv, rv b6, iv vv, iv bv, un, un, un] [(.int (0 : Int32))]))
          refine Ends.go (fun _ => XS.istore X8.here hx rfl (hb hby at_292) rfl (l' := #[iv vx, iv vy, iv vz, iv vu, iv vp, iv vq, iv nav, iv nbv, iv fav, iv lav, iv ncv, iv ndv, iv fbv, iv lbv, iv rnv, rv b5, iv prv, rv b6, iv vv, iv bv, iv (0 : Int32), un, un]) rfl) ?_
          show Ends p.tables e below G (T8.setTop (mkF m 294 #[iv vx, iv vy, iv vz, iv vu, iv vp, iv vq, iv nav, iv nbv, iv fav, iv lav, iv ncv, iv ndv, iv fbv, iv lbv, iv rnv, rv b5, iv prv, rv b6, iv vv, iv bv, iv (0 : Int32), un, un] []))
          exact tail294 _ _ hbt (Or.inr ⟨rfl, fun o => absurd o.2.1 (by omega)⟩)
        · refine Ends.go (fun _ => XS.icmpNo X8.here hx rfl (hb hby at_275) rfl (flt (fun z => k2 ((own_lt hval hx0).mp z) : ¬ (vv < x0))).2.2.1) ?_
          show Ends p.tables e below G (T8.setTop (mkF m 278 #[iv vx, iv vy, iv vz, iv vu, iv vp, iv vq, iv nav, iv nbv, iv fav, iv lav, iv ncv, iv ndv, iv fbv, iv lbv, iv rnv, rv b5, iv prv, rv b6, iv vv, iv bv, un, un, un] []))
          refine Ends.go (fun _ => XS.iload X8.here hx rfl (hb hby at_278) rfl) ?_
          show Ends p.tables e below G (T8.setTop (mkF m 280 #[iv vx, iv vy, iv vz, iv vu, iv vp, iv vq, iv nav, iv nbv, iv fav, iv lav, iv ncv, iv ndv, iv fbv, iv lbv, iv rnv, rv b5, iv prv, rv b6, iv vv, iv bv, un, un, un] [(.int vv)]))
          refine Ends.go (fun _ => XS.aload X8.here hx rfl (hb hby at_280) rfl rfl) ?_
          show Ends p.tables e below G (T8.setTop (mkF m 282 #[iv vx, iv vy, iv vz, iv vu, iv vp, iv vq, iv nav, iv nbv, iv fav, iv lav, iv ncv, iv ndv, iv fbv, iv lbv, iv rnv, rv b5, iv prv, rv b6, iv vv, iv bv, un, un, un] [(.ref b5), (.int vv)]))
          refine Ends.go (fun _ => XS.iconst X8.here hx rfl (hb hby at_282)) ?_
          show Ends p.tables e below G (T8.setTop (mkF m 283 #[iv vx, iv vy, iv vz, iv vu, iv vp, iv vq, iv nav, iv nbv, iv fav, iv lav, iv ncv, iv ndv, iv fbv, iv lbv, iv rnv, rv b5, iv prv, rv b6, iv vv, iv bv, un, un, un] [(.int (1 : Int32)), (.ref b5), (.int vv)]))
          refine Ends.go (fun _ => AF.ldC f8_V_b5 X8 hx hZ rfl (j := (1 : Int32)) (i := 1) (by decide) (by decide) (v := (.int x1)) rfl (g := (mkF m 283 #[iv vx, iv vy, iv vz, iv vu, iv vp, iv vq, iv nav, iv nbv, iv fav, iv lav, iv ncv, iv ndv, iv fbv, iv lbv, iv rnv, rv b5, iv prv, rv b6, iv vv, iv bv, un, un, un] [(.int (1 : Int32)), (.ref b5), (.int vv)])) rfl rfl (hb hby at_283) _) ?_
          show Ends p.tables e below G (T8.setTop (mkF m 284 #[iv vx, iv vy, iv vz, iv vu, iv vp, iv vq, iv nav, iv nbv, iv fav, iv lav, iv ncv, iv ndv, iv fbv, iv lbv, iv rnv, rv b5, iv prv, rv b6, iv vv, iv bv, un, un, un] [(.int x1), (.int vv)]))
          by_cases k3 : q1 < val
          · refine Ends.go (fun _ => XS.icmpYes X8.here hx rfl (pc0 := 284) (pc' := 291) rfl (hb hby at_284) rfl (tlt ((own_lt hx1 hval).mpr k3 : x1 < vv)).2.2.1 (by decide) (by decide)) ?_
            show Ends p.tables e below G (T8.setTop (mkF m 291 #[iv vx, iv vy, iv vz, iv vu, iv vp, iv vq, iv nav, iv nbv, iv fav, iv lav, iv ncv, iv ndv, iv fbv, iv lbv, iv rnv, rv b5, iv prv, rv b6, iv vv, iv bv, un, un, un] []))
            refine Ends.go (fun _ => XS.iconst X8.here hx rfl (hb hby at_291)) ?_
            show Ends p.tables e below G (T8.setTop (mkF m 292 #[iv vx, iv vy, iv vz, iv vu, iv vp, iv vq, iv nav, iv nbv, iv fav, iv lav, iv ncv, iv ndv, iv fbv, iv lbv, iv rnv, rv b5, iv prv, rv b6, iv vv, iv bv, un, un, un] [(.int (0 : Int32))]))
            refine Ends.go (fun _ => XS.istore X8.here hx rfl (hb hby at_292) rfl (l' := #[iv vx, iv vy, iv vz, iv vu, iv vp, iv vq, iv nav, iv nbv, iv fav, iv lav, iv ncv, iv ndv, iv fbv, iv lbv, iv rnv, rv b5, iv prv, rv b6, iv vv, iv bv, iv (0 : Int32), un, un]) rfl) ?_
            show Ends p.tables e below G (T8.setTop (mkF m 294 #[iv vx, iv vy, iv vz, iv vu, iv vp, iv vq, iv nav, iv nbv, iv fav, iv lav, iv ncv, iv ndv, iv fbv, iv lbv, iv rnv, rv b5, iv prv, rv b6, iv vv, iv bv, iv (0 : Int32), un, un] []))
            exact tail294 _ _ hbt (Or.inr ⟨rfl, fun o => absurd o.2.2 (by omega)⟩)
          · refine Ends.go (fun _ => XS.icmpNo X8.here hx rfl (hb hby at_284) rfl (flt (fun z => k3 ((own_lt hx1 hval).mp z) : ¬ (x1 < vv))).2.2.1) ?_
            show Ends p.tables e below G (T8.setTop (mkF m 287 #[iv vx, iv vy, iv vz, iv vu, iv vp, iv vq, iv nav, iv nbv, iv fav, iv lav, iv ncv, iv ndv, iv fbv, iv lbv, iv rnv, rv b5, iv prv, rv b6, iv vv, iv bv, un, un, un] []))
            refine Ends.go (fun _ => XS.iconst X8.here hx rfl (hb hby at_287)) ?_
            show Ends p.tables e below G (T8.setTop (mkF m 288 #[iv vx, iv vy, iv vz, iv vu, iv vp, iv vq, iv nav, iv nbv, iv fav, iv lav, iv ncv, iv ndv, iv fbv, iv lbv, iv rnv, rv b5, iv prv, rv b6, iv vv, iv bv, un, un, un] [(.int (1 : Int32))]))
            refine Ends.go (fun _ => XS.goto X8.here hx rfl (pc0 := 288) (pc' := 292) rfl (hb hby at_288) (by decide) (by decide)) ?_
            show Ends p.tables e below G (T8.setTop (mkF m 292 #[iv vx, iv vy, iv vz, iv vu, iv vp, iv vq, iv nav, iv nbv, iv fav, iv lav, iv ncv, iv ndv, iv fbv, iv lbv, iv rnv, rv b5, iv prv, rv b6, iv vv, iv bv, un, un, un] [(.int (1 : Int32))]))
            refine Ends.go (fun _ => XS.istore X8.here hx rfl (hb hby at_292) rfl (l' := #[iv vx, iv vy, iv vz, iv vu, iv vp, iv vq, iv nav, iv nbv, iv fav, iv lav, iv ncv, iv ndv, iv fbv, iv lbv, iv rnv, rv b5, iv prv, rv b6, iv vv, iv bv, iv (1 : Int32), un, un]) rfl) ?_
            show Ends p.tables e below G (T8.setTop (mkF m 294 #[iv vx, iv vy, iv vz, iv vu, iv vp, iv vq, iv nav, iv nbv, iv fav, iv lav, iv ncv, iv ndv, iv fbv, iv lbv, iv rnv, rv b5, iv prv, rv b6, iv vv, iv bv, iv (1 : Int32), un, un] []))
            exact tail294 _ _ hbt (Or.inl ⟨rfl, by omega, by omega, by omega⟩)
    by_cases qb : bt Wn8 val = true
    · refine Ends.go (fun _ => XS.ifNo X8.here hx rfl (hb hby at_253) rfl ((if0 _ _).trans (feq (fun z => absurd ((own_bitv _ hval).mp z) (by rw [show (Wn8 (val / 64)).toBitVec.getLsbD (val % 64) = true from qb]; decide) : ¬ ((lcmpW ((((Wn8 (val / 64)).toUInt64 >>> ((vv &&& (63 : Int32)) &&& 0x3f).toInt64.toUInt64).toInt64) &&& (1 : Int64)) (0 : Int64)) = (0 : Int32)))).1)) ?_
      show Ends p.tables e below G (T8.setTop (mkF m 256 #[iv vx, iv vy, iv vz, iv vu, iv vp, iv vq, iv nav, iv nbv, iv fav, iv lav, iv ncv, iv ndv, iv fbv, iv lbv, iv rnv, rv b5, iv prv, rv b6, iv vv, un, un, un, un] []))
      refine Ends.go (fun _ => XS.iconst X8.here hx rfl (hb hby at_256)) ?_
      show Ends p.tables e below G (T8.setTop (mkF m 257 #[iv vx, iv vy, iv vz, iv vu, iv vp, iv vq, iv nav, iv nbv, iv fav, iv lav, iv ncv, iv ndv, iv fbv, iv lbv, iv rnv, rv b5, iv prv, rv b6, iv vv, un, un, un, un] [(.int (1 : Int32))]))
      refine Ends.go (fun _ => XS.goto X8.here hx rfl (pc0 := 257) (pc' := 261) rfl (hb hby at_257) (by decide) (by decide)) ?_
      show Ends p.tables e below G (T8.setTop (mkF m 261 #[iv vx, iv vy, iv vz, iv vu, iv vp, iv vq, iv nav, iv nbv, iv fav, iv lav, iv ncv, iv ndv, iv fbv, iv lbv, iv rnv, rv b5, iv prv, rv b6, iv vv, un, un, un, un] [(.int (1 : Int32))]))
      refine Ends.go (fun _ => XS.istore X8.here hx rfl (hb hby at_261) rfl (l' := #[iv vx, iv vy, iv vz, iv vu, iv vp, iv vq, iv nav, iv nbv, iv fav, iv lav, iv ncv, iv ndv, iv fbv, iv lbv, iv rnv, rv b5, iv prv, rv b6, iv vv, iv (1 : Int32), un, un, un]) rfl) ?_
      show Ends p.tables e below G (T8.setTop (mkF m 263 #[iv vx, iv vy, iv vz, iv vu, iv vp, iv vq, iv nav, iv nbv, iv fav, iv lav, iv ncv, iv ndv, iv fbv, iv lbv, iv rnv, rv b5, iv prv, rv b6, iv vv, iv (1 : Int32), un, un, un] []))
      exact tail263 _ (Or.inl ⟨rfl, qb⟩)
    · refine Ends.go (fun _ => XS.ifYes X8.here hx rfl (pc0 := 253) (pc' := 260) rfl (hb hby at_253) rfl ((if0 _ _).trans (teq ((own_bitv _ hval).mpr (Bool.not_eq_true _ ▸ qb) : (lcmpW ((((Wn8 (val / 64)).toUInt64 >>> ((vv &&& (63 : Int32)) &&& 0x3f).toInt64.toUInt64).toInt64) &&& (1 : Int64)) (0 : Int64)) = (0 : Int32))).1) (by decide) (by decide)) ?_
      show Ends p.tables e below G (T8.setTop (mkF m 260 #[iv vx, iv vy, iv vz, iv vu, iv vp, iv vq, iv nav, iv nbv, iv fav, iv lav, iv ncv, iv ndv, iv fbv, iv lbv, iv rnv, rv b5, iv prv, rv b6, iv vv, un, un, un, un] []))
      refine Ends.go (fun _ => XS.iconst X8.here hx rfl (hb hby at_260)) ?_
      show Ends p.tables e below G (T8.setTop (mkF m 261 #[iv vx, iv vy, iv vz, iv vu, iv vp, iv vq, iv nav, iv nbv, iv fav, iv lav, iv ncv, iv ndv, iv fbv, iv lbv, iv rnv, rv b5, iv prv, rv b6, iv vv, un, un, un, un] [(.int (0 : Int32))]))
      refine Ends.go (fun _ => XS.istore X8.here hx rfl (hb hby at_261) rfl (l' := #[iv vx, iv vy, iv vz, iv vu, iv vp, iv vq, iv nav, iv nbv, iv fav, iv lav, iv ncv, iv ndv, iv fbv, iv lbv, iv rnv, rv b5, iv prv, rv b6, iv vv, iv (0 : Int32), un, un, un]) rfl) ?_
      show Ends p.tables e below G (T8.setTop (mkF m 263 #[iv vx, iv vy, iv vz, iv vu, iv vp, iv vq, iv nav, iv nbv, iv fav, iv lav, iv ncv, iv ndv, iv fbv, iv lbv, iv rnv, rv b5, iv prv, rv b6, iv vv, iv (0 : Int32), un, un, un] []))
      exact tail263 _ (Or.inr ⟨rfl, qb⟩)
  have hl1p := own_add hl1 (b := 1) (y := 1) rfl (by omega)
  have hl2p := own_add hl2 (b := 1) (y := 1) rfl (by omega)
  by_cases k1 : l1 + 1 < f2
  · refine Ends.go (fun _ => XS.icmpNo X5.here hx rfl (hb hby at_80) rfl (tlt ((own_lt hl1p hf2).mpr k1 : (lav + (1 : Int32)) < fbv)).2.2.2) ?_
    show Ends p.tables e below G (T5.setTop (mkF m 83 #[iv vx, iv vy, iv vz, iv vu, iv vp, iv vq, iv nav, iv nbv, iv fav, iv lav, iv ncv, iv ndv, iv fbv, iv lbv, iv rnv, rv b5, un, un, un, un, un, un, un] []))
    refine Ends.go (fun _ => XS.aload X5.here hx rfl (hb hby at_83) rfl rfl) ?_
    show Ends p.tables e below G (T5.setTop (mkF m 85 #[iv vx, iv vy, iv vz, iv vu, iv vp, iv vq, iv nav, iv nbv, iv fav, iv lav, iv ncv, iv ndv, iv fbv, iv lbv, iv rnv, rv b5, un, un, un, un, un, un, un] [(.ref b5)]))
    refine Ends.go (fun _ => XS.iconst X5.here hx rfl (hb hby at_85)) ?_
    show Ends p.tables e below G (T5.setTop (mkF m 86 #[iv vx, iv vy, iv vz, iv vu, iv vp, iv vq, iv nav, iv nbv, iv fav, iv lav, iv ncv, iv ndv, iv fbv, iv lbv, iv rnv, rv b5, un, un, un, un, un, un, un] [(.int (0 : Int32)), (.ref b5)]))
    refine Ends.go (fun _ => XS.iload X5.here hx rfl (hb hby at_86) rfl) ?_
    show Ends p.tables e below G (T5.setTop (mkF m 88 #[iv vx, iv vy, iv vz, iv vu, iv vp, iv vq, iv nav, iv nbv, iv fav, iv lav, iv ncv, iv ndv, iv fbv, iv lbv, iv rnv, rv b5, un, un, un, un, un, un, un] [(.int fav), (.int (0 : Int32)), (.ref b5)]))
    refine Ends.go (fun _ => XS.i2c X5.here hx rfl (hb hby at_88) rfl) ?_
    show Ends p.tables e below G (T5.setTop (mkF m 89 #[iv vx, iv vy, iv vz, iv vu, iv vp, iv vq, iv nav, iv nbv, iv fav, iv lav, iv ncv, iv ndv, iv fbv, iv lbv, iv rnv, rv b5, un, un, un, un, un, un, un] [(.int (fav.toUInt32.toUInt16.toUInt32.toInt32)), (.int (0 : Int32)), (.ref b5)]))
    obtain ⟨T9, h9, X9, e9, W9, V9, st9⟩ := AF.stC V5 X5 hx hZ e5 (j := (0 : Int32)) (i := 0) (by decide) (by decide) (g := (mkF m 89 #[iv vx, iv vy, iv vz, iv vu, iv vp, iv vq, iv nav, iv nbv, iv fav, iv lav, iv ncv, iv ndv, iv fbv, iv lbv, iv rnv, rv b5, un, un, un, un, un, un, un] [(.int (fav.toUInt32.toUInt16.toUInt32.toInt32)), (.int (0 : Int32)), (.ref b5)])) rfl rfl (hb hby at_89)
    have sz9 := Nat.le_trans sz5 (Nat.le_of_eq W9.size.symm)
    have N9 := Fr.snoc X9 N4 g_b5
    refine Ends.go (fun _ => st9 _) ?_
    show Ends p.tables e below G (T9.setTop (mkF m 90 #[iv vx, iv vy, iv vz, iv vu, iv vp, iv vq, iv nav, iv nbv, iv fav, iv lav, iv ncv, iv ndv, iv fbv, iv lbv, iv rnv, rv b5, un, un, un, un, un, un, un] []))
    refine Ends.go (fun _ => XS.aload X9.here hx rfl (hb hby at_90) rfl rfl) ?_
    show Ends p.tables e below G (T9.setTop (mkF m 92 #[iv vx, iv vy, iv vz, iv vu, iv vp, iv vq, iv nav, iv nbv, iv fav, iv lav, iv ncv, iv ndv, iv fbv, iv lbv, iv rnv, rv b5, un, un, un, un, un, un, un] [(.ref b5)]))
    refine Ends.go (fun _ => XS.iconst X9.here hx rfl (hb hby at_92)) ?_
    show Ends p.tables e below G (T9.setTop (mkF m 93 #[iv vx, iv vy, iv vz, iv vu, iv vp, iv vq, iv nav, iv nbv, iv fav, iv lav, iv ncv, iv ndv, iv fbv, iv lbv, iv rnv, rv b5, un, un, un, un, un, un, un] [(.int (1 : Int32)), (.ref b5)]))
    refine Ends.go (fun _ => XS.iload X9.here hx rfl (hb hby at_93) rfl) ?_
    show Ends p.tables e below G (T9.setTop (mkF m 95 #[iv vx, iv vy, iv vz, iv vu, iv vp, iv vq, iv nav, iv nbv, iv fav, iv lav, iv ncv, iv ndv, iv fbv, iv lbv, iv rnv, rv b5, un, un, un, un, un, un, un] [(.int lav), (.int (1 : Int32)), (.ref b5)]))
    refine Ends.go (fun _ => XS.i2c X9.here hx rfl (hb hby at_95) rfl) ?_
    show Ends p.tables e below G (T9.setTop (mkF m 96 #[iv vx, iv vy, iv vz, iv vu, iv vp, iv vq, iv nav, iv nbv, iv fav, iv lav, iv ncv, iv ndv, iv fbv, iv lbv, iv rnv, rv b5, un, un, un, un, un, un, un] [(.int (lav.toUInt32.toUInt16.toUInt32.toInt32)), (.int (1 : Int32)), (.ref b5)]))
    obtain ⟨T10, h10, X10, e10, W10, V10, st10⟩ := AF.stC V9 X9 hx hZ e9 (j := (1 : Int32)) (i := 1) (by decide) (by decide) (g := (mkF m 96 #[iv vx, iv vy, iv vz, iv vu, iv vp, iv vq, iv nav, iv nbv, iv fav, iv lav, iv ncv, iv ndv, iv fbv, iv lbv, iv rnv, rv b5, un, un, un, un, un, un, un] [(.int (lav.toUInt32.toUInt16.toUInt32.toInt32)), (.int (1 : Int32)), (.ref b5)])) rfl rfl (hb hby at_96)
    have sz10 := Nat.le_trans sz9 (Nat.le_of_eq W10.size.symm)
    have N10 := Fr.snoc X10 N9 g_b5
    refine Ends.go (fun _ => st10 _) ?_
    show Ends p.tables e below G (T10.setTop (mkF m 97 #[iv vx, iv vy, iv vz, iv vu, iv vp, iv vq, iv nav, iv nbv, iv fav, iv lav, iv ncv, iv ndv, iv fbv, iv lbv, iv rnv, rv b5, un, un, un, un, un, un, un] []))
    refine Ends.go (fun _ => XS.aload X10.here hx rfl (hb hby at_97) rfl rfl) ?_
    show Ends p.tables e below G (T10.setTop (mkF m 99 #[iv vx, iv vy, iv vz, iv vu, iv vp, iv vq, iv nav, iv nbv, iv fav, iv lav, iv ncv, iv ndv, iv fbv, iv lbv, iv rnv, rv b5, un, un, un, un, un, un, un] [(.ref b5)]))
    refine Ends.go (fun _ => XS.iconst X10.here hx rfl (hb hby at_99)) ?_
    show Ends p.tables e below G (T10.setTop (mkF m 100 #[iv vx, iv vy, iv vz, iv vu, iv vp, iv vq, iv nav, iv nbv, iv fav, iv lav, iv ncv, iv ndv, iv fbv, iv lbv, iv rnv, rv b5, un, un, un, un, un, un, un] [(.int (2 : Int32)), (.ref b5)]))
    refine Ends.go (fun _ => XS.iload X10.here hx rfl (hb hby at_100) rfl) ?_
    show Ends p.tables e below G (T10.setTop (mkF m 102 #[iv vx, iv vy, iv vz, iv vu, iv vp, iv vq, iv nav, iv nbv, iv fav, iv lav, iv ncv, iv ndv, iv fbv, iv lbv, iv rnv, rv b5, un, un, un, un, un, un, un] [(.int fbv), (.int (2 : Int32)), (.ref b5)]))
    refine Ends.go (fun _ => XS.i2c X10.here hx rfl (hb hby at_102) rfl) ?_
    show Ends p.tables e below G (T10.setTop (mkF m 103 #[iv vx, iv vy, iv vz, iv vu, iv vp, iv vq, iv nav, iv nbv, iv fav, iv lav, iv ncv, iv ndv, iv fbv, iv lbv, iv rnv, rv b5, un, un, un, un, un, un, un] [(.int (fbv.toUInt32.toUInt16.toUInt32.toInt32)), (.int (2 : Int32)), (.ref b5)]))
    obtain ⟨T11, h11, X11, e11, W11, V11, st11⟩ := AF.stC V10 X10 hx hZ e10 (j := (2 : Int32)) (i := 2) (by decide) (by decide) (g := (mkF m 103 #[iv vx, iv vy, iv vz, iv vu, iv vp, iv vq, iv nav, iv nbv, iv fav, iv lav, iv ncv, iv ndv, iv fbv, iv lbv, iv rnv, rv b5, un, un, un, un, un, un, un] [(.int (fbv.toUInt32.toUInt16.toUInt32.toInt32)), (.int (2 : Int32)), (.ref b5)])) rfl rfl (hb hby at_103)
    have sz11 := Nat.le_trans sz10 (Nat.le_of_eq W11.size.symm)
    have N11 := Fr.snoc X11 N10 g_b5
    refine Ends.go (fun _ => st11 _) ?_
    show Ends p.tables e below G (T11.setTop (mkF m 104 #[iv vx, iv vy, iv vz, iv vu, iv vp, iv vq, iv nav, iv nbv, iv fav, iv lav, iv ncv, iv ndv, iv fbv, iv lbv, iv rnv, rv b5, un, un, un, un, un, un, un] []))
    refine Ends.go (fun _ => XS.aload X11.here hx rfl (hb hby at_104) rfl rfl) ?_
    show Ends p.tables e below G (T11.setTop (mkF m 106 #[iv vx, iv vy, iv vz, iv vu, iv vp, iv vq, iv nav, iv nbv, iv fav, iv lav, iv ncv, iv ndv, iv fbv, iv lbv, iv rnv, rv b5, un, un, un, un, un, un, un] [(.ref b5)]))
    refine Ends.go (fun _ => XS.iconst X11.here hx rfl (hb hby at_106)) ?_
    show Ends p.tables e below G (T11.setTop (mkF m 107 #[iv vx, iv vy, iv vz, iv vu, iv vp, iv vq, iv nav, iv nbv, iv fav, iv lav, iv ncv, iv ndv, iv fbv, iv lbv, iv rnv, rv b5, un, un, un, un, un, un, un] [(.int (3 : Int32)), (.ref b5)]))
    refine Ends.go (fun _ => XS.iload X11.here hx rfl (hb hby at_107) rfl) ?_
    show Ends p.tables e below G (T11.setTop (mkF m 109 #[iv vx, iv vy, iv vz, iv vu, iv vp, iv vq, iv nav, iv nbv, iv fav, iv lav, iv ncv, iv ndv, iv fbv, iv lbv, iv rnv, rv b5, un, un, un, un, un, un, un] [(.int lbv), (.int (3 : Int32)), (.ref b5)]))
    refine Ends.go (fun _ => XS.i2c X11.here hx rfl (hb hby at_109) rfl) ?_
    show Ends p.tables e below G (T11.setTop (mkF m 110 #[iv vx, iv vy, iv vz, iv vu, iv vp, iv vq, iv nav, iv nbv, iv fav, iv lav, iv ncv, iv ndv, iv fbv, iv lbv, iv rnv, rv b5, un, un, un, un, un, un, un] [(.int (lbv.toUInt32.toUInt16.toUInt32.toInt32)), (.int (3 : Int32)), (.ref b5)]))
    obtain ⟨T12, h12, X12, e12, W12, V12, st12⟩ := AF.stC V11 X11 hx hZ e11 (j := (3 : Int32)) (i := 3) (by decide) (by decide) (g := (mkF m 110 #[iv vx, iv vy, iv vz, iv vu, iv vp, iv vq, iv nav, iv nbv, iv fav, iv lav, iv ncv, iv ndv, iv fbv, iv lbv, iv rnv, rv b5, un, un, un, un, un, un, un] [(.int (lbv.toUInt32.toUInt16.toUInt32.toInt32)), (.int (3 : Int32)), (.ref b5)])) rfl rfl (hb hby at_110)
    have sz12 := Nat.le_trans sz11 (Nat.le_of_eq W12.size.symm)
    have N12 := Fr.snoc X12 N11 g_b5
    refine Ends.go (fun _ => st12 _) ?_
    show Ends p.tables e below G (T12.setTop (mkF m 111 #[iv vx, iv vy, iv vz, iv vu, iv vp, iv vq, iv nav, iv nbv, iv fav, iv lav, iv ncv, iv ndv, iv fbv, iv lbv, iv rnv, rv b5, un, un, un, un, un, un, un] []))
    refine Ends.go (fun _ => XS.goto X12.here hx rfl (pc0 := 111) (pc' := 190) rfl (hb hby at_111) (by decide) (by decide)) ?_
    show Ends p.tables e below G (T12.setTop (mkF m 190 #[iv vx, iv vy, iv vz, iv vu, iv vp, iv vq, iv nav, iv nbv, iv fav, iv lav, iv ncv, iv ndv, iv fbv, iv lbv, iv rnv, rv b5, un, un, un, un, un, un, un] []))
    exact tail190 _ _ _ fav lav fbv lbv f1 l1 f2 l2 X12 e12 N12 sz12 (AF.congr V12 (fun j hj => match j, hj with | 0, _ => congrArg Value.int (own_char hf1 (by omega)) | 1, _ => congrArg Value.int (own_char hl1 (by omega)) | 2, _ => congrArg Value.int (own_char hf2 (by omega)) | 3, _ => congrArg Value.int (own_char hl2 (by omega)))) hf1 hl1 hf2 hl2 (by omega) (by omega) (by omega) (by omega)
  · refine Ends.go (fun _ => XS.icmpYes X5.here hx rfl (pc0 := 80) (pc' := 114) rfl (hb hby at_80) rfl (flt (fun z => k1 ((own_lt hl1p hf2).mp z) : ¬ ((lav + (1 : Int32)) < fbv))).2.2.2 (by decide) (by decide)) ?_
    show Ends p.tables e below G (T5.setTop (mkF m 114 #[iv vx, iv vy, iv vz, iv vu, iv vp, iv vq, iv nav, iv nbv, iv fav, iv lav, iv ncv, iv ndv, iv fbv, iv lbv, iv rnv, rv b5, un, un, un, un, un, un, un] []))
    refine Ends.go (fun _ => XS.iload X5.here hx rfl (hb hby at_114) rfl) ?_
    show Ends p.tables e below G (T5.setTop (mkF m 116 #[iv vx, iv vy, iv vz, iv vu, iv vp, iv vq, iv nav, iv nbv, iv fav, iv lav, iv ncv, iv ndv, iv fbv, iv lbv, iv rnv, rv b5, un, un, un, un, un, un, un] [(.int lbv)]))
    refine Ends.go (fun _ => XS.iconst X5.here hx rfl (hb hby at_116)) ?_
    show Ends p.tables e below G (T5.setTop (mkF m 117 #[iv vx, iv vy, iv vz, iv vu, iv vp, iv vq, iv nav, iv nbv, iv fav, iv lav, iv ncv, iv ndv, iv fbv, iv lbv, iv rnv, rv b5, un, un, un, un, un, un, un] [(.int (1 : Int32)), (.int lbv)]))
    refine Ends.go (fun _ => XS.iadd X5.here hx rfl (hb hby at_117) rfl) ?_
    show Ends p.tables e below G (T5.setTop (mkF m 118 #[iv vx, iv vy, iv vz, iv vu, iv vp, iv vq, iv nav, iv nbv, iv fav, iv lav, iv ncv, iv ndv, iv fbv, iv lbv, iv rnv, rv b5, un, un, un, un, un, un, un] [(.int (lbv + (1 : Int32)))]))
    refine Ends.go (fun _ => XS.iload X5.here hx rfl (hb hby at_118) rfl) ?_
    show Ends p.tables e below G (T5.setTop (mkF m 120 #[iv vx, iv vy, iv vz, iv vu, iv vp, iv vq, iv nav, iv nbv, iv fav, iv lav, iv ncv, iv ndv, iv fbv, iv lbv, iv rnv, rv b5, un, un, un, un, un, un, un] [(.int fav), (.int (lbv + (1 : Int32)))]))
    by_cases k2 : l2 + 1 < f1
    · refine Ends.go (fun _ => XS.icmpNo X5.here hx rfl (hb hby at_120) rfl (tlt ((own_lt hl2p hf1).mpr k2 : (lbv + (1 : Int32)) < fav)).2.1) ?_
      show Ends p.tables e below G (T5.setTop (mkF m 123 #[iv vx, iv vy, iv vz, iv vu, iv vp, iv vq, iv nav, iv nbv, iv fav, iv lav, iv ncv, iv ndv, iv fbv, iv lbv, iv rnv, rv b5, un, un, un, un, un, un, un] []))
      refine Ends.go (fun _ => XS.aload X5.here hx rfl (hb hby at_123) rfl rfl) ?_
      show Ends p.tables e below G (T5.setTop (mkF m 125 #[iv vx, iv vy, iv vz, iv vu, iv vp, iv vq, iv nav, iv nbv, iv fav, iv lav, iv ncv, iv ndv, iv fbv, iv lbv, iv rnv, rv b5, un, un, un, un, un, un, un] [(.ref b5)]))
      refine Ends.go (fun _ => XS.iconst X5.here hx rfl (hb hby at_125)) ?_
      show Ends p.tables e below G (T5.setTop (mkF m 126 #[iv vx, iv vy, iv vz, iv vu, iv vp, iv vq, iv nav, iv nbv, iv fav, iv lav, iv ncv, iv ndv, iv fbv, iv lbv, iv rnv, rv b5, un, un, un, un, un, un, un] [(.int (0 : Int32)), (.ref b5)]))
      refine Ends.go (fun _ => XS.iload X5.here hx rfl (hb hby at_126) rfl) ?_
      show Ends p.tables e below G (T5.setTop (mkF m 128 #[iv vx, iv vy, iv vz, iv vu, iv vp, iv vq, iv nav, iv nbv, iv fav, iv lav, iv ncv, iv ndv, iv fbv, iv lbv, iv rnv, rv b5, un, un, un, un, un, un, un] [(.int fbv), (.int (0 : Int32)), (.ref b5)]))
      refine Ends.go (fun _ => XS.i2c X5.here hx rfl (hb hby at_128) rfl) ?_
      show Ends p.tables e below G (T5.setTop (mkF m 129 #[iv vx, iv vy, iv vz, iv vu, iv vp, iv vq, iv nav, iv nbv, iv fav, iv lav, iv ncv, iv ndv, iv fbv, iv lbv, iv rnv, rv b5, un, un, un, un, un, un, un] [(.int (fbv.toUInt32.toUInt16.toUInt32.toInt32)), (.int (0 : Int32)), (.ref b5)]))
      obtain ⟨T13, h13, X13, e13, W13, V13, st13⟩ := AF.stC V5 X5 hx hZ e5 (j := (0 : Int32)) (i := 0) (by decide) (by decide) (g := (mkF m 129 #[iv vx, iv vy, iv vz, iv vu, iv vp, iv vq, iv nav, iv nbv, iv fav, iv lav, iv ncv, iv ndv, iv fbv, iv lbv, iv rnv, rv b5, un, un, un, un, un, un, un] [(.int (fbv.toUInt32.toUInt16.toUInt32.toInt32)), (.int (0 : Int32)), (.ref b5)])) rfl rfl (hb hby at_129)
      have sz13 := Nat.le_trans sz5 (Nat.le_of_eq W13.size.symm)
      have N13 := Fr.snoc X13 N4 g_b5
      refine Ends.go (fun _ => st13 _) ?_
      show Ends p.tables e below G (T13.setTop (mkF m 130 #[iv vx, iv vy, iv vz, iv vu, iv vp, iv vq, iv nav, iv nbv, iv fav, iv lav, iv ncv, iv ndv, iv fbv, iv lbv, iv rnv, rv b5, un, un, un, un, un, un, un] []))
      refine Ends.go (fun _ => XS.aload X13.here hx rfl (hb hby at_130) rfl rfl) ?_
      show Ends p.tables e below G (T13.setTop (mkF m 132 #[iv vx, iv vy, iv vz, iv vu, iv vp, iv vq, iv nav, iv nbv, iv fav, iv lav, iv ncv, iv ndv, iv fbv, iv lbv, iv rnv, rv b5, un, un, un, un, un, un, un] [(.ref b5)]))
      refine Ends.go (fun _ => XS.iconst X13.here hx rfl (hb hby at_132)) ?_
      show Ends p.tables e below G (T13.setTop (mkF m 133 #[iv vx, iv vy, iv vz, iv vu, iv vp, iv vq, iv nav, iv nbv, iv fav, iv lav, iv ncv, iv ndv, iv fbv, iv lbv, iv rnv, rv b5, un, un, un, un, un, un, un] [(.int (1 : Int32)), (.ref b5)]))
      refine Ends.go (fun _ => XS.iload X13.here hx rfl (hb hby at_133) rfl) ?_
      show Ends p.tables e below G (T13.setTop (mkF m 135 #[iv vx, iv vy, iv vz, iv vu, iv vp, iv vq, iv nav, iv nbv, iv fav, iv lav, iv ncv, iv ndv, iv fbv, iv lbv, iv rnv, rv b5, un, un, un, un, un, un, un] [(.int lbv), (.int (1 : Int32)), (.ref b5)]))
      refine Ends.go (fun _ => XS.i2c X13.here hx rfl (hb hby at_135) rfl) ?_
      show Ends p.tables e below G (T13.setTop (mkF m 136 #[iv vx, iv vy, iv vz, iv vu, iv vp, iv vq, iv nav, iv nbv, iv fav, iv lav, iv ncv, iv ndv, iv fbv, iv lbv, iv rnv, rv b5, un, un, un, un, un, un, un] [(.int (lbv.toUInt32.toUInt16.toUInt32.toInt32)), (.int (1 : Int32)), (.ref b5)]))
      obtain ⟨T14, h14, X14, e14, W14, V14, st14⟩ := AF.stC V13 X13 hx hZ e13 (j := (1 : Int32)) (i := 1) (by decide) (by decide) (g := (mkF m 136 #[iv vx, iv vy, iv vz, iv vu, iv vp, iv vq, iv nav, iv nbv, iv fav, iv lav, iv ncv, iv ndv, iv fbv, iv lbv, iv rnv, rv b5, un, un, un, un, un, un, un] [(.int (lbv.toUInt32.toUInt16.toUInt32.toInt32)), (.int (1 : Int32)), (.ref b5)])) rfl rfl (hb hby at_136)
      have sz14 := Nat.le_trans sz13 (Nat.le_of_eq W14.size.symm)
      have N14 := Fr.snoc X14 N13 g_b5
      refine Ends.go (fun _ => st14 _) ?_
      show Ends p.tables e below G (T14.setTop (mkF m 137 #[iv vx, iv vy, iv vz, iv vu, iv vp, iv vq, iv nav, iv nbv, iv fav, iv lav, iv ncv, iv ndv, iv fbv, iv lbv, iv rnv, rv b5, un, un, un, un, un, un, un] []))
      refine Ends.go (fun _ => XS.aload X14.here hx rfl (hb hby at_137) rfl rfl) ?_
      show Ends p.tables e below G (T14.setTop (mkF m 139 #[iv vx, iv vy, iv vz, iv vu, iv vp, iv vq, iv nav, iv nbv, iv fav, iv lav, iv ncv, iv ndv, iv fbv, iv lbv, iv rnv, rv b5, un, un, un, un, un, un, un] [(.ref b5)]))
      refine Ends.go (fun _ => XS.iconst X14.here hx rfl (hb hby at_139)) ?_
      show Ends p.tables e below G (T14.setTop (mkF m 140 #[iv vx, iv vy, iv vz, iv vu, iv vp, iv vq, iv nav, iv nbv, iv fav, iv lav, iv ncv, iv ndv, iv fbv, iv lbv, iv rnv, rv b5, un, un, un, un, un, un, un] [(.int (2 : Int32)), (.ref b5)]))
      refine Ends.go (fun _ => XS.iload X14.here hx rfl (hb hby at_140) rfl) ?_
      show Ends p.tables e below G (T14.setTop (mkF m 142 #[iv vx, iv vy, iv vz, iv vu, iv vp, iv vq, iv nav, iv nbv, iv fav, iv lav, iv ncv, iv ndv, iv fbv, iv lbv, iv rnv, rv b5, un, un, un, un, un, un, un] [(.int fav), (.int (2 : Int32)), (.ref b5)]))
      refine Ends.go (fun _ => XS.i2c X14.here hx rfl (hb hby at_142) rfl) ?_
      show Ends p.tables e below G (T14.setTop (mkF m 143 #[iv vx, iv vy, iv vz, iv vu, iv vp, iv vq, iv nav, iv nbv, iv fav, iv lav, iv ncv, iv ndv, iv fbv, iv lbv, iv rnv, rv b5, un, un, un, un, un, un, un] [(.int (fav.toUInt32.toUInt16.toUInt32.toInt32)), (.int (2 : Int32)), (.ref b5)]))
      obtain ⟨T15, h15, X15, e15, W15, V15, st15⟩ := AF.stC V14 X14 hx hZ e14 (j := (2 : Int32)) (i := 2) (by decide) (by decide) (g := (mkF m 143 #[iv vx, iv vy, iv vz, iv vu, iv vp, iv vq, iv nav, iv nbv, iv fav, iv lav, iv ncv, iv ndv, iv fbv, iv lbv, iv rnv, rv b5, un, un, un, un, un, un, un] [(.int (fav.toUInt32.toUInt16.toUInt32.toInt32)), (.int (2 : Int32)), (.ref b5)])) rfl rfl (hb hby at_143)
      have sz15 := Nat.le_trans sz14 (Nat.le_of_eq W15.size.symm)
      have N15 := Fr.snoc X15 N14 g_b5
      refine Ends.go (fun _ => st15 _) ?_
      show Ends p.tables e below G (T15.setTop (mkF m 144 #[iv vx, iv vy, iv vz, iv vu, iv vp, iv vq, iv nav, iv nbv, iv fav, iv lav, iv ncv, iv ndv, iv fbv, iv lbv, iv rnv, rv b5, un, un, un, un, un, un, un] []))
      refine Ends.go (fun _ => XS.aload X15.here hx rfl (hb hby at_144) rfl rfl) ?_
      show Ends p.tables e below G (T15.setTop (mkF m 146 #[iv vx, iv vy, iv vz, iv vu, iv vp, iv vq, iv nav, iv nbv, iv fav, iv lav, iv ncv, iv ndv, iv fbv, iv lbv, iv rnv, rv b5, un, un, un, un, un, un, un] [(.ref b5)]))
      refine Ends.go (fun _ => XS.iconst X15.here hx rfl (hb hby at_146)) ?_
      show Ends p.tables e below G (T15.setTop (mkF m 147 #[iv vx, iv vy, iv vz, iv vu, iv vp, iv vq, iv nav, iv nbv, iv fav, iv lav, iv ncv, iv ndv, iv fbv, iv lbv, iv rnv, rv b5, un, un, un, un, un, un, un] [(.int (3 : Int32)), (.ref b5)]))
      refine Ends.go (fun _ => XS.iload X15.here hx rfl (hb hby at_147) rfl) ?_
      show Ends p.tables e below G (T15.setTop (mkF m 149 #[iv vx, iv vy, iv vz, iv vu, iv vp, iv vq, iv nav, iv nbv, iv fav, iv lav, iv ncv, iv ndv, iv fbv, iv lbv, iv rnv, rv b5, un, un, un, un, un, un, un] [(.int lav), (.int (3 : Int32)), (.ref b5)]))
      refine Ends.go (fun _ => XS.i2c X15.here hx rfl (hb hby at_149) rfl) ?_
      show Ends p.tables e below G (T15.setTop (mkF m 150 #[iv vx, iv vy, iv vz, iv vu, iv vp, iv vq, iv nav, iv nbv, iv fav, iv lav, iv ncv, iv ndv, iv fbv, iv lbv, iv rnv, rv b5, un, un, un, un, un, un, un] [(.int (lav.toUInt32.toUInt16.toUInt32.toInt32)), (.int (3 : Int32)), (.ref b5)]))
      obtain ⟨T16, h16, X16, e16, W16, V16, st16⟩ := AF.stC V15 X15 hx hZ e15 (j := (3 : Int32)) (i := 3) (by decide) (by decide) (g := (mkF m 150 #[iv vx, iv vy, iv vz, iv vu, iv vp, iv vq, iv nav, iv nbv, iv fav, iv lav, iv ncv, iv ndv, iv fbv, iv lbv, iv rnv, rv b5, un, un, un, un, un, un, un] [(.int (lav.toUInt32.toUInt16.toUInt32.toInt32)), (.int (3 : Int32)), (.ref b5)])) rfl rfl (hb hby at_150)
      have sz16 := Nat.le_trans sz15 (Nat.le_of_eq W16.size.symm)
      have N16 := Fr.snoc X16 N15 g_b5
      refine Ends.go (fun _ => st16 _) ?_
      show Ends p.tables e below G (T16.setTop (mkF m 151 #[iv vx, iv vy, iv vz, iv vu, iv vp, iv vq, iv nav, iv nbv, iv fav, iv lav, iv ncv, iv ndv, iv fbv, iv lbv, iv rnv, rv b5, un, un, un, un, un, un, un] []))
      refine Ends.go (fun _ => XS.goto X16.here hx rfl (pc0 := 151) (pc' := 190) rfl (hb hby at_151) (by decide) (by decide)) ?_
      show Ends p.tables e below G (T16.setTop (mkF m 190 #[iv vx, iv vy, iv vz, iv vu, iv vp, iv vq, iv nav, iv nbv, iv fav, iv lav, iv ncv, iv ndv, iv fbv, iv lbv, iv rnv, rv b5, un, un, un, un, un, un, un] []))
      exact tail190 _ _ _ fbv lbv fav lav f2 l2 f1 l1 X16 e16 N16 sz16 (AF.congr V16 (fun j hj => match j, hj with | 0, _ => congrArg Value.int (own_char hf2 (by omega)) | 1, _ => congrArg Value.int (own_char hl2 (by omega)) | 2, _ => congrArg Value.int (own_char hf1 (by omega)) | 3, _ => congrArg Value.int (own_char hl1 (by omega)))) hf2 hl2 hf1 hl1 (by omega) (by omega) (by omega) (by omega)
    · refine Ends.go (fun _ => XS.icmpYes X5.here hx rfl (pc0 := 120) (pc' := 154) rfl (hb hby at_120) rfl (flt (fun z => k2 ((own_lt hl2p hf1).mp z) : ¬ ((lbv + (1 : Int32)) < fav))).2.1 (by decide) (by decide)) ?_
      show Ends p.tables e below G (T5.setTop (mkF m 154 #[iv vx, iv vy, iv vz, iv vu, iv vp, iv vq, iv nav, iv nbv, iv fav, iv lav, iv ncv, iv ndv, iv fbv, iv lbv, iv rnv, rv b5, un, un, un, un, un, un, un] []))
      refine Ends.go (fun _ => XS.iload X5.here hx rfl (hb hby at_154) rfl) ?_
      show Ends p.tables e below G (T5.setTop (mkF m 156 #[iv vx, iv vy, iv vz, iv vu, iv vp, iv vq, iv nav, iv nbv, iv fav, iv lav, iv ncv, iv ndv, iv fbv, iv lbv, iv rnv, rv b5, un, un, un, un, un, un, un] [(.int rnv)]))
      refine Ends.go (fun _ => XS.iconst X5.here hx rfl (hb hby at_156)) ?_
      show Ends p.tables e below G (T5.setTop (mkF m 157 #[iv vx, iv vy, iv vz, iv vu, iv vp, iv vq, iv nav, iv nbv, iv fav, iv lav, iv ncv, iv ndv, iv fbv, iv lbv, iv rnv, rv b5, un, un, un, un, un, un, un] [(.int (2 : Int32)), (.int rnv)]))
      by_cases k3 : rn = 2
      · refine Ends.go (fun _ => XS.icmpNo X5.here hx rfl (hb hby at_157) rfl (teq ((own_eqn hrn (b := 2) rfl).mpr k3 : rnv = (2 : Int32))).2) ?_
        show Ends p.tables e below G (T5.setTop (mkF m 160 #[iv vx, iv vy, iv vz, iv vu, iv vp, iv vq, iv nav, iv nbv, iv fav, iv lav, iv ncv, iv ndv, iv fbv, iv lbv, iv rnv, rv b5, un, un, un, un, un, un, un] []))
        refine Ends.go (fun _ => XS.iconst X5.here hx rfl (hb hby at_160)) ?_
        show Ends p.tables e below G (T5.setTop (mkF m 161 #[iv vx, iv vy, iv vz, iv vu, iv vp, iv vq, iv nav, iv nbv, iv fav, iv lav, iv ncv, iv ndv, iv fbv, iv lbv, iv rnv, rv b5, un, un, un, un, un, un, un] [(.int (1 : Int32))]))
        refine own_finS (t := .boolean) X5 hx Bd.returns (by simp) Bd.notSynchronized (hb hby at_161) (Q := (Q0 Z vx vy vz vu vp vq h0 n0)) hG (by decide) (by decide) ?_
        show (Q0 Z vx vy vz vu vp vq h0 n0) _ T5.heap _
        rw [e5]
        exact ⟨rfl, N4⟩
      · refine Ends.go (fun _ => XS.icmpYes X5.here hx rfl (pc0 := 157) (pc' := 162) rfl (hb hby at_157) rfl (feq (fun z => k3 ((own_eqn hrn (b := 2) rfl).mp z) : ¬ (rnv = (2 : Int32)))).2 (by decide) (by decide)) ?_
        show Ends p.tables e below G (T5.setTop (mkF m 162 #[iv vx, iv vy, iv vz, iv vu, iv vp, iv vq, iv nav, iv nbv, iv fav, iv lav, iv ncv, iv ndv, iv fbv, iv lbv, iv rnv, rv b5, un, un, un, un, un, un, un] []))
        refine Ends.go (fun _ => XS.aload X5.here hx rfl (hb hby at_162) rfl rfl) ?_
        show Ends p.tables e below G (T5.setTop (mkF m 164 #[iv vx, iv vy, iv vz, iv vu, iv vp, iv vq, iv nav, iv nbv, iv fav, iv lav, iv ncv, iv ndv, iv fbv, iv lbv, iv rnv, rv b5, un, un, un, un, un, un, un] [(.ref b5)]))
        refine Ends.go (fun _ => XS.iconst X5.here hx rfl (hb hby at_164)) ?_
        show Ends p.tables e below G (T5.setTop (mkF m 165 #[iv vx, iv vy, iv vz, iv vu, iv vp, iv vq, iv nav, iv nbv, iv fav, iv lav, iv ncv, iv ndv, iv fbv, iv lbv, iv rnv, rv b5, un, un, un, un, un, un, un] [(.int (0 : Int32)), (.ref b5)]))
        refine Ends.go (fun _ => XS.iload X5.here hx rfl (hb hby at_165) rfl) ?_
        show Ends p.tables e below G (T5.setTop (mkF m 167 #[iv vx, iv vy, iv vz, iv vu, iv vp, iv vq, iv nav, iv nbv, iv fav, iv lav, iv ncv, iv ndv, iv fbv, iv lbv, iv rnv, rv b5, un, un, un, un, un, un, un] [(.int fav), (.int (0 : Int32)), (.ref b5)]))
        refine Ends.go (fun _ => XS.i2c X5.here hx rfl (hb hby at_167) rfl) ?_
        show Ends p.tables e below G (T5.setTop (mkF m 168 #[iv vx, iv vy, iv vz, iv vu, iv vp, iv vq, iv nav, iv nbv, iv fav, iv lav, iv ncv, iv ndv, iv fbv, iv lbv, iv rnv, rv b5, un, un, un, un, un, un, un] [(.int (fav.toUInt32.toUInt16.toUInt32.toInt32)), (.int (0 : Int32)), (.ref b5)]))
        obtain ⟨T17, h17, X17, e17, W17, V17, st17⟩ := AF.stC V5 X5 hx hZ e5 (j := (0 : Int32)) (i := 0) (by decide) (by decide) (g := (mkF m 168 #[iv vx, iv vy, iv vz, iv vu, iv vp, iv vq, iv nav, iv nbv, iv fav, iv lav, iv ncv, iv ndv, iv fbv, iv lbv, iv rnv, rv b5, un, un, un, un, un, un, un] [(.int (fav.toUInt32.toUInt16.toUInt32.toInt32)), (.int (0 : Int32)), (.ref b5)])) rfl rfl (hb hby at_168)
        have sz17 := Nat.le_trans sz5 (Nat.le_of_eq W17.size.symm)
        have N17 := Fr.snoc X17 N4 g_b5
        refine Ends.go (fun _ => st17 _) ?_
        show Ends p.tables e below G (T17.setTop (mkF m 169 #[iv vx, iv vy, iv vz, iv vu, iv vp, iv vq, iv nav, iv nbv, iv fav, iv lav, iv ncv, iv ndv, iv fbv, iv lbv, iv rnv, rv b5, un, un, un, un, un, un, un] []))
        refine Ends.go (fun _ => XS.aload X17.here hx rfl (hb hby at_169) rfl rfl) ?_
        show Ends p.tables e below G (T17.setTop (mkF m 171 #[iv vx, iv vy, iv vz, iv vu, iv vp, iv vq, iv nav, iv nbv, iv fav, iv lav, iv ncv, iv ndv, iv fbv, iv lbv, iv rnv, rv b5, un, un, un, un, un, un, un] [(.ref b5)]))
        refine Ends.go (fun _ => XS.iconst X17.here hx rfl (hb hby at_171)) ?_
        show Ends p.tables e below G (T17.setTop (mkF m 172 #[iv vx, iv vy, iv vz, iv vu, iv vp, iv vq, iv nav, iv nbv, iv fav, iv lav, iv ncv, iv ndv, iv fbv, iv lbv, iv rnv, rv b5, un, un, un, un, un, un, un] [(.int (1 : Int32)), (.ref b5)]))
        refine Ends.go (fun _ => XS.iload X17.here hx rfl (hb hby at_172) rfl) ?_
        show Ends p.tables e below G (T17.setTop (mkF m 174 #[iv vx, iv vy, iv vz, iv vu, iv vp, iv vq, iv nav, iv nbv, iv fav, iv lav, iv ncv, iv ndv, iv fbv, iv lbv, iv rnv, rv b5, un, un, un, un, un, un, un] [(.int lav), (.int (1 : Int32)), (.ref b5)]))
        refine Ends.go (fun _ => XS.i2c X17.here hx rfl (hb hby at_174) rfl) ?_
        show Ends p.tables e below G (T17.setTop (mkF m 175 #[iv vx, iv vy, iv vz, iv vu, iv vp, iv vq, iv nav, iv nbv, iv fav, iv lav, iv ncv, iv ndv, iv fbv, iv lbv, iv rnv, rv b5, un, un, un, un, un, un, un] [(.int (lav.toUInt32.toUInt16.toUInt32.toInt32)), (.int (1 : Int32)), (.ref b5)]))
        obtain ⟨T18, h18, X18, e18, W18, V18, st18⟩ := AF.stC V17 X17 hx hZ e17 (j := (1 : Int32)) (i := 1) (by decide) (by decide) (g := (mkF m 175 #[iv vx, iv vy, iv vz, iv vu, iv vp, iv vq, iv nav, iv nbv, iv fav, iv lav, iv ncv, iv ndv, iv fbv, iv lbv, iv rnv, rv b5, un, un, un, un, un, un, un] [(.int (lav.toUInt32.toUInt16.toUInt32.toInt32)), (.int (1 : Int32)), (.ref b5)])) rfl rfl (hb hby at_175)
        have sz18 := Nat.le_trans sz17 (Nat.le_of_eq W18.size.symm)
        have N18 := Fr.snoc X18 N17 g_b5
        refine Ends.go (fun _ => st18 _) ?_
        show Ends p.tables e below G (T18.setTop (mkF m 176 #[iv vx, iv vy, iv vz, iv vu, iv vp, iv vq, iv nav, iv nbv, iv fav, iv lav, iv ncv, iv ndv, iv fbv, iv lbv, iv rnv, rv b5, un, un, un, un, un, un, un] []))
        refine Ends.go (fun _ => XS.aload X18.here hx rfl (hb hby at_176) rfl rfl) ?_
        show Ends p.tables e below G (T18.setTop (mkF m 178 #[iv vx, iv vy, iv vz, iv vu, iv vp, iv vq, iv nav, iv nbv, iv fav, iv lav, iv ncv, iv ndv, iv fbv, iv lbv, iv rnv, rv b5, un, un, un, un, un, un, un] [(.ref b5)]))
        refine Ends.go (fun _ => XS.iconst X18.here hx rfl (hb hby at_178)) ?_
        show Ends p.tables e below G (T18.setTop (mkF m 179 #[iv vx, iv vy, iv vz, iv vu, iv vp, iv vq, iv nav, iv nbv, iv fav, iv lav, iv ncv, iv ndv, iv fbv, iv lbv, iv rnv, rv b5, un, un, un, un, un, un, un] [(.int (2 : Int32)), (.ref b5)]))
        refine Ends.go (fun _ => XS.iload X18.here hx rfl (hb hby at_179) rfl) ?_
        show Ends p.tables e below G (T18.setTop (mkF m 181 #[iv vx, iv vy, iv vz, iv vu, iv vp, iv vq, iv nav, iv nbv, iv fav, iv lav, iv ncv, iv ndv, iv fbv, iv lbv, iv rnv, rv b5, un, un, un, un, un, un, un] [(.int fbv), (.int (2 : Int32)), (.ref b5)]))
        refine Ends.go (fun _ => XS.i2c X18.here hx rfl (hb hby at_181) rfl) ?_
        show Ends p.tables e below G (T18.setTop (mkF m 182 #[iv vx, iv vy, iv vz, iv vu, iv vp, iv vq, iv nav, iv nbv, iv fav, iv lav, iv ncv, iv ndv, iv fbv, iv lbv, iv rnv, rv b5, un, un, un, un, un, un, un] [(.int (fbv.toUInt32.toUInt16.toUInt32.toInt32)), (.int (2 : Int32)), (.ref b5)]))
        obtain ⟨T19, h19, X19, e19, W19, V19, st19⟩ := AF.stC V18 X18 hx hZ e18 (j := (2 : Int32)) (i := 2) (by decide) (by decide) (g := (mkF m 182 #[iv vx, iv vy, iv vz, iv vu, iv vp, iv vq, iv nav, iv nbv, iv fav, iv lav, iv ncv, iv ndv, iv fbv, iv lbv, iv rnv, rv b5, un, un, un, un, un, un, un] [(.int (fbv.toUInt32.toUInt16.toUInt32.toInt32)), (.int (2 : Int32)), (.ref b5)])) rfl rfl (hb hby at_182)
        have sz19 := Nat.le_trans sz18 (Nat.le_of_eq W19.size.symm)
        have N19 := Fr.snoc X19 N18 g_b5
        refine Ends.go (fun _ => st19 _) ?_
        show Ends p.tables e below G (T19.setTop (mkF m 183 #[iv vx, iv vy, iv vz, iv vu, iv vp, iv vq, iv nav, iv nbv, iv fav, iv lav, iv ncv, iv ndv, iv fbv, iv lbv, iv rnv, rv b5, un, un, un, un, un, un, un] []))
        refine Ends.go (fun _ => XS.aload X19.here hx rfl (hb hby at_183) rfl rfl) ?_
        show Ends p.tables e below G (T19.setTop (mkF m 185 #[iv vx, iv vy, iv vz, iv vu, iv vp, iv vq, iv nav, iv nbv, iv fav, iv lav, iv ncv, iv ndv, iv fbv, iv lbv, iv rnv, rv b5, un, un, un, un, un, un, un] [(.ref b5)]))
        refine Ends.go (fun _ => XS.iconst X19.here hx rfl (hb hby at_185)) ?_
        show Ends p.tables e below G (T19.setTop (mkF m 186 #[iv vx, iv vy, iv vz, iv vu, iv vp, iv vq, iv nav, iv nbv, iv fav, iv lav, iv ncv, iv ndv, iv fbv, iv lbv, iv rnv, rv b5, un, un, un, un, un, un, un] [(.int (3 : Int32)), (.ref b5)]))
        refine Ends.go (fun _ => XS.iload X19.here hx rfl (hb hby at_186) rfl) ?_
        show Ends p.tables e below G (T19.setTop (mkF m 188 #[iv vx, iv vy, iv vz, iv vu, iv vp, iv vq, iv nav, iv nbv, iv fav, iv lav, iv ncv, iv ndv, iv fbv, iv lbv, iv rnv, rv b5, un, un, un, un, un, un, un] [(.int lbv), (.int (3 : Int32)), (.ref b5)]))
        refine Ends.go (fun _ => XS.i2c X19.here hx rfl (hb hby at_188) rfl) ?_
        show Ends p.tables e below G (T19.setTop (mkF m 189 #[iv vx, iv vy, iv vz, iv vu, iv vp, iv vq, iv nav, iv nbv, iv fav, iv lav, iv ncv, iv ndv, iv fbv, iv lbv, iv rnv, rv b5, un, un, un, un, un, un, un] [(.int (lbv.toUInt32.toUInt16.toUInt32.toInt32)), (.int (3 : Int32)), (.ref b5)]))
        obtain ⟨T20, h20, X20, e20, W20, V20, st20⟩ := AF.stC V19 X19 hx hZ e19 (j := (3 : Int32)) (i := 3) (by decide) (by decide) (g := (mkF m 189 #[iv vx, iv vy, iv vz, iv vu, iv vp, iv vq, iv nav, iv nbv, iv fav, iv lav, iv ncv, iv ndv, iv fbv, iv lbv, iv rnv, rv b5, un, un, un, un, un, un, un] [(.int (lbv.toUInt32.toUInt16.toUInt32.toInt32)), (.int (3 : Int32)), (.ref b5)])) rfl rfl (hb hby at_189)
        have sz20 := Nat.le_trans sz19 (Nat.le_of_eq W20.size.symm)
        have N20 := Fr.snoc X20 N19 g_b5
        refine Ends.go (fun _ => st20 _) ?_
        show Ends p.tables e below G (T20.setTop (mkF m 190 #[iv vx, iv vy, iv vz, iv vu, iv vp, iv vq, iv nav, iv nbv, iv fav, iv lav, iv ncv, iv ndv, iv fbv, iv lbv, iv rnv, rv b5, un, un, un, un, un, un, un] []))
        exact tail190 _ _ _ fav lav fbv lbv f1 l1 f2 l2 X20 e20 N20 sz20 (AF.congr V20 (fun j hj => match j, hj with | 0, _ => congrArg Value.int (own_char hf1 (by omega)) | 1, _ => congrArg Value.int (own_char hl1 (by omega)) | 2, _ => congrArg Value.int (own_char hf2 (by omega)) | 3, _ => congrArg Value.int (own_char hl2 (by omega)))) hf1 hl1 hf2 hl2 (by omega) (by omega) (by omega) (by omega)
set_option maxRecDepth 65536 in
set_option maxHeartbeats 40000000 in
theorem comes_1 {Post : Tables → Env → Array Value → State → Outcome → State → Prop} (hpost : ∀ tb e args s v u, (limb_1_1.after args s (.returned v) u = true ∧ limb_1_2.after args s (.returned v) u = true ∧ True) → FrameEnd s (.returned v) u (Jvm.fieldLocs frame_1_writes args s ++ Jvm.arrayLocs frame_1_arrays args s ++ Jvm.staticLocs frame_1_statics s) 16 2176 → Post tb e args s (.returned v) u) :
    ArmFor flags0 classFile x code maxLocals ret World_1 tables_1 room_1 Calls_1 rest_1 Pre_1 Post := by
  intro l hfl _ _ p e ha hc hk s m args below hf hA hF happ hP
  obtain ⟨hcalls, hrest, hpre⟩ := hP
  obtain ⟨-, -, -, hnamed, -, -, -, hat⟩ := (Spec.applies_iff hf).mp happ
  obtain ⟨hg, hn⟩ := and_e (Cond.before_iff.mp (show (Jvm.Cond.and given_1 narrow_1).before args s = true from hpre))
  obtain ⟨gg1, gg2⟩ := and_e hg
  obtain ⟨gg3, gg4⟩ := and_e gg2
  obtain ⟨gg5, gg6⟩ := and_e gg4
  obtain ⟨gg7, gg8⟩ := and_e gg6
  obtain ⟨gg9, gg10⟩ := and_e gg8
  obtain ⟨gg11, gg12⟩ := and_e gg10
  obtain ⟨w0, w1, w2, w3, w4, w5, rfl⟩ : ∃ w0 w1 w2 w3 w4 w5 : Value, args = #[w0, w1, w2, w3, w4, w5] := by
    have hs : args.size = 6 := by simpa [Cond.value, given_1] using gg1
    obtain ⟨L⟩ := args
    match L, hs with
    | [w0, w1, w2, w3, w4, w5], _ => exact ⟨w0, w1, w2, w3, w4, w5, rfl⟩
  have hw := fun d (hd : d ∈ tables_1) => atoms_spec (ws := Jvm.Cond.code x code maxLocals ret :: tables_1) hat d (List.mem_cons_of_mem _ hd)
  obtain ⟨i0, ei0⟩ := is_v gg3
  obtain rfl : w0 = (.int i0) := Option.some.inj ei0
  obtain ⟨i1, ei1⟩ := is_v gg5
  obtain rfl : w1 = (.int i1) := Option.some.inj ei1
  obtain ⟨i2, ei2⟩ := is_v gg7
  obtain rfl : w2 = (.int i2) := Option.some.inj ei2
  obtain ⟨i3, ei3⟩ := is_v gg9
  obtain rfl : w3 = (.int i3) := Option.some.inj ei3
  obtain ⟨i4, ei4⟩ := is_v gg11
  obtain rfl : w4 = (.int i4) := Option.some.inj ei4
  obtain ⟨i5, ei5⟩ := is_v gg12
  obtain rfl : w5 = (.int i5) := Option.some.inj ei5
  obtain ⟨n, o, h1, h2, h3, _, L, rfl, ⟨rfl, N⟩, hq⟩ := rm0 l s _ hw tables_1 i0 i1 i2 i3 i4 i5 s.heap s.heap.size (Nat.le_refl _)  p e ha hc hk s m _ below hf ((Spec.applies_iff_loose hf).mp happ).1 ⟨rfl, State.Warmed39.refl s, rfl⟩ trivial
  refine ⟨n, _, h1, h2, h3, hpost _ _ _ _ _ _ ⟨Cond.after_iff.mpr rfl, Cond.after_iff.mpr (eq_i res_at (Term.int_eval (1)) rfl), trivial⟩ ⟨hq.1, hq.2.1, (hq.2.2.sift fun y hy => Or.inr (N y hy)).mono (by decide) (by decide)⟩⟩
theorem main_1_1 : Claimed_1_1 := comes_1 fun _ _ _ _ _ _ h hF => ⟨h.1, hF⟩
theorem main_1_2 : Claimed_1_2 := comes_1 fun _ _ _ _ _ _ h hF => ⟨h.2.1, hF⟩
end Jvm.Pilot.@@N@@
namespace Jvm.Pilot.@@N@@
open Jvm Jvm.ClassFile Sem Op Lib Jvm.Free Jvm.Stand Jvm.Pilot.@@N@@.Jvm.D
/-! MADE BY PROGRAM (witnessworld.py) out of the Statement's table words and the real class files: 15 classes; the members and pool entries that the words name. The judged class is class 1, her method 1. -/
namespace start1
open Jvm.ClassFile
def u (s : String) : CpInfo := .utf8 (stringToUtf16 s)
/-- a pool by its gaps: so many unusable entries, then the entry; so many at the end -/
def gap : Nat → List CpInfo → List CpInfo
  | 0, r => r
  | n + 1, r => .unusable :: gap n r
def poolList (es : List (Nat × CpInfo)) (last : Nat) : List CpInfo := es.foldr (fun e r => gap e.1 (e.2 :: r)) (gap last [])
def pool (es : List (Nat × CpInfo)) (last : Nat) : Array CpInfo := ⟨poolList es last⟩
def fileOf (pool : Array CpInfo) (this : Nat) (attrs : Array Attribute := #[]) (ms : Array MethodInfo := #[]) (fl : Nat := 33) (sup : Nat := 0) (ifs : Array Nat := #[]) (fds : Array FieldInfo := #[]) : ClassFile where
  minorVersion := 0
  majorVersion := 65
  constantPool := pool
  accessFlags := fl
  thisClass := this
  superClass := sup
  interfaces := ifs
  fields := fds
  methods := ms
  attributes := attrs
def plain (name : String) (sup : Option ClassId) : Class where
  name := name
  kind := .ordinary
  loader := none
  accessFlags := 33
  super := sup
  interfaces := #[]
  cf := none
  fields := #[]
  methods := #[]
  instanceTypes := #[]
  staticTypes := #[]
  resolved := #[]
  callSites := []
  init := .initialized
  statics := none
  mirror := none

def pool0 : Array CpInfo := pool [(5, u "<init>"), (0, u "()V"), (1, .class_ 10), (1, u "java/lang/Object")] 113

def k0m0 : Method := { name := "<init>", desc := "()V", sig := { parameters := [], returnType := none }, accessFlags := 1, code := none }
/-- java/lang/Object -/
def k0 : Class := { plain "java/lang/Object" none with
  accessFlags := 33
  interfaces := #[]
  cf := some (fileOf pool0 8 #[] #[{ accessFlags := 1, nameIndex := 5, descriptorIndex := 6, attributes := #[] }] 33 0 #[] #[])
  fields := #[]
  methods := #[k0m0]
  instanceTypes := #[]
  staticTypes := #[]
  resolved := Array.replicate 124 none
  statics := none }

def pool1 : Array CpInfo := pool [(2, .class_ 4), (1, u "java/lang/Object"), (0, u "<init>"), (0, u "()V"), (0, .integer 65535), (0, .methodref 9 10), (0, .class_ 11), (0, .nameAndType 12 13), (0, u "java/lang/Math"), (0, u "min"), (0, u "(II)I"), (0, .methodref 9 15), (0, .nameAndType 16 13), (0, u "max"), (0, .methodref 18 19), (0, .class_ 20), (0, .nameAndType 21 22), (0, u "com/example/bitstrata/bitstrata/bitmap/RunContainer"), (0, u "orInto"), (0, u "([J[CI)V"), (0, .class_ 24), (0, u "com/example/bitstrata/bitstrata/bitmap/RunContainerOrIntoPinLaw"), (2, u "law"), (0, u "(IIIIII)Z")] 7

def k1m0 : Method := { name := "<init>", desc := "()V", sig := { parameters := [], returnType := none }, accessFlags := 1, code := none }
def k1c1 : Code := { maxStack := 6, maxLocals := 23, code := code, exceptionTable := #[], attributes := #[] }
def k1m1 : Method := { name := "law", desc := "(IIIIII)Z", sig := { parameters := [.int, .int, .int, .int, .int, .int], returnType := some .boolean }, accessFlags := 9, code := some k1c1 }
/-- com/example/bitstrata/bitstrata/bitmap/RunContainerOrIntoPinLaw -/
def k1 : Class := { plain "com/example/bitstrata/bitstrata/bitmap/RunContainerOrIntoPinLaw" (some 0) with
  accessFlags := 49
  interfaces := #[]
  cf := some (fileOf pool1 23 #[] #[{ accessFlags := 1, nameIndex := 5, descriptorIndex := 6, attributes := #[] }, { accessFlags := 9, nameIndex := 27, descriptorIndex := 28, attributes := #[] }] 49 2 #[] #[])
  fields := #[]
  methods := #[k1m0, k1m1]
  instanceTypes := #[]
  staticTypes := #[]
  resolved := Array.replicate 36 none
  statics := none }

def pool2 : Array CpInfo := pool [(1, .class_ 2), (0, u "java/lang/Math"), (1, .class_ 6), (1, u "java/lang/Object"), (0, u "<init>"), (0, u "()V"), (89, .class_ 100), (1, u "java/lang/Math$RandomNumberGeneratorHolder"), (71, u "negativeZeroFloatBits"), (0, u "J"), (2, u "negativeZeroDoubleBits"), (21, u "max"), (2, u "min"), (43, u "$assertionsDisabled"), (0, u "Z"), (88, u "(II)I"), (2, u "twoToTheDoubleScaleDown"), (0, u "D"), (4, u "twoToTheDoubleScaleUp"), (9, u "E"), (3, u "PI"), (2, u "TAU"), (2, u "DEGREES_TO_RADIANS"), (0, u "RADIANS_TO_DEGREES")] 94

def k2m0 : Method := { name := "<init>", desc := "()V", sig := { parameters := [], returnType := none }, accessFlags := 2, code := none }
def k2c1 : Code := { maxStack := 2, maxLocals := 2, code := jdk_29_method_65_code, exceptionTable := #[], attributes := #[] }
def k2m1 : Method := { name := "max", desc := "(II)I", sig := { parameters := [.int, .int], returnType := some .int }, accessFlags := 9, code := some k2c1 }
def k2c2 : Code := { maxStack := 2, maxLocals := 2, code := jdk_29_method_69_code, exceptionTable := #[], attributes := #[] }
def k2m2 : Method := { name := "min", desc := "(II)I", sig := { parameters := [.int, .int], returnType := some .int }, accessFlags := 9, code := some k2c2 }
/-- java/lang/Math -/
def k2 : Class := { plain "java/lang/Math" (some 0) with
  accessFlags := 49
  interfaces := #[]
  cf := some (fileOf pool2 1 #[.nestMembers #[98]] #[{ accessFlags := 2, nameIndex := 7, descriptorIndex := 8, attributes := #[] }, { accessFlags := 9, nameIndex := 198, descriptorIndex := 335, attributes := #[] }, { accessFlags := 9, nameIndex := 201, descriptorIndex := 335, attributes := #[] }] 49 4 #[] #[{ accessFlags := 25, nameIndex := 354, descriptorIndex := 339, attributes := #[] }, { accessFlags := 25, nameIndex := 358, descriptorIndex := 339, attributes := #[] }, { accessFlags := 25, nameIndex := 361, descriptorIndex := 339, attributes := #[] }, { accessFlags := 26, nameIndex := 364, descriptorIndex := 339, attributes := #[] }, { accessFlags := 26, nameIndex := 365, descriptorIndex := 339, attributes := #[] }, { accessFlags := 26, nameIndex := 172, descriptorIndex := 173, attributes := #[] }, { accessFlags := 26, nameIndex := 176, descriptorIndex := 173, attributes := #[] }, { accessFlags := 8, nameIndex := 344, descriptorIndex := 339, attributes := #[] }, { accessFlags := 8, nameIndex := 338, descriptorIndex := 339, attributes := #[] }, { accessFlags := 4120, nameIndex := 245, descriptorIndex := 246, attributes := #[] }])
  fields := #[{ name := "E", type := .double, accessFlags := 25, slot := 0, constantValue := 0 }, { name := "PI", type := .double, accessFlags := 25, slot := 1, constantValue := 0 }, { name := "TAU", type := .double, accessFlags := 25, slot := 2, constantValue := 0 }, { name := "DEGREES_TO_RADIANS", type := .double, accessFlags := 26, slot := 3, constantValue := 0 }, { name := "RADIANS_TO_DEGREES", type := .double, accessFlags := 26, slot := 4, constantValue := 0 }, { name := "negativeZeroFloatBits", type := .long, accessFlags := 26, slot := 5, constantValue := 0 }, { name := "negativeZeroDoubleBits", type := .long, accessFlags := 26, slot := 6, constantValue := 0 }, { name := "twoToTheDoubleScaleUp", type := .double, accessFlags := 8, slot := 7, constantValue := 0 }, { name := "twoToTheDoubleScaleDown", type := .double, accessFlags := 8, slot := 8, constantValue := 0 }, { name := "$assertionsDisabled", type := .boolean, accessFlags := 4120, slot := 9, constantValue := 0 }]
  methods := #[k2m0, k2m1, k2m2]
  instanceTypes := #[]
  staticTypes := #[.double, .double, .double, .double, .double, .long, .long, .double, .double, .boolean]
  resolved := Array.replicate 460 none
  statics := none }

def pool3 : Array CpInfo := pool [(1, .class_ 2), (0, u "com/example/bitstrata/bitstrata/bitmap/Container"), (146, u "EMPTY"), (0, u "Lcom/example/bitstrata/bitstrata/bitmap/Container;"), (67, u "SAVED"), (0, u "Ljava/lang/ThreadLocal;"), (0, .class_ 221), (0, u "java/lang/Object"), (0, u "MAX_ARRAY"), (0, u "I"), (2, u "MAX_RUNS"), (1, u "RUNS_CODE"), (0, u "BITSET_CODE"), (0, u "FIRST_BITSET_CODE"), (2, u "OBJECT_BYTES")] 77

/-- com/example/bitstrata/bitstrata/bitmap/Container -/
def k3 : Class := { plain "com/example/bitstrata/bitstrata/bitmap/Container" (some 0) with
  accessFlags := 1536
  interfaces := #[]
  cf := some (fileOf pool3 1 #[] #[] 1536 220 #[] #[{ accessFlags := 25, nameIndex := 222, descriptorIndex := 223, attributes := #[] }, { accessFlags := 25, nameIndex := 226, descriptorIndex := 223, attributes := #[] }, { accessFlags := 25, nameIndex := 228, descriptorIndex := 223, attributes := #[] }, { accessFlags := 25, nameIndex := 229, descriptorIndex := 223, attributes := #[] }, { accessFlags := 25, nameIndex := 230, descriptorIndex := 223, attributes := #[] }, { accessFlags := 25, nameIndex := 218, descriptorIndex := 219, attributes := #[] }, { accessFlags := 25, nameIndex := 149, descriptorIndex := 150, attributes := #[] }, { accessFlags := 25, nameIndex := 233, descriptorIndex := 223, attributes := #[] }])
  fields := #[{ name := "MAX_ARRAY", type := .int, accessFlags := 25, slot := 0, constantValue := 0 }, { name := "MAX_RUNS", type := .int, accessFlags := 25, slot := 1, constantValue := 0 }, { name := "RUNS_CODE", type := .int, accessFlags := 25, slot := 2, constantValue := 0 }, { name := "BITSET_CODE", type := .int, accessFlags := 25, slot := 3, constantValue := 0 }, { name := "FIRST_BITSET_CODE", type := .int, accessFlags := 25, slot := 4, constantValue := 0 }, { name := "SAVED", type := (.object "java/lang/ThreadLocal"), accessFlags := 25, slot := 5, constantValue := 0 }, { name := "EMPTY", type := (.object "com/example/bitstrata/bitstrata/bitmap/Container"), accessFlags := 25, slot := 6, constantValue := 0 }, { name := "OBJECT_BYTES", type := .int, accessFlags := 25, slot := 7, constantValue := 0 }]
  methods := #[]
  instanceTypes := #[]
  staticTypes := #[.int, .int, .int, .int, .int, (.object "java/lang/ThreadLocal"), (.object "com/example/bitstrata/bitstrata/bitmap/Container"), .int]
  resolved := Array.replicate 311 none
  statics := none }

def pool4 : Array CpInfo := pool [(2, .class_ 4), (1, u "java/lang/Object"), (3, .class_ 10), (1, u "com/example/bitstrata/bitstrata/bitmap/RunContainer"), (0, u "bounds"), (0, u "[C"), (2, u "cardinality"), (0, u "I"), (0, .long 18446744073709551615), (16, .class_ 35), (0, u "com/example/bitstrata/bitstrata/bitmap/Container"), (82, u "UNITED"), (0, u "Ljava/lang/ThreadLocal;"), (70, u "orInto"), (0, u "([J[CI)V")] 136

def k4c0 : Code := { maxStack := 8, maxLocals := 11, code := prog_105_method_28_code, exceptionTable := #[], attributes := #[] }
def k4m0 : Method := { name := "orInto", desc := "([J[CI)V", sig := { parameters := [(.array .long), (.array .char), .int], returnType := none }, accessFlags := 8, code := some k4c0 }
/-- com/example/bitstrata/bitstrata/bitmap/RunContainer -/
def k4 : Class := { plain "com/example/bitstrata/bitstrata/bitmap/RunContainer" (some 0) with
  accessFlags := 48
  interfaces := #[3]
  cf := some (fileOf pool4 8 #[] #[{ accessFlags := 8, nameIndex := 190, descriptorIndex := 191, attributes := #[] }] 48 2 #[34] #[{ accessFlags := 16, nameIndex := 11, descriptorIndex := 12, attributes := #[] }, { accessFlags := 18, nameIndex := 15, descriptorIndex := 16, attributes := #[] }, { accessFlags := 26, nameIndex := 118, descriptorIndex := 119, attributes := #[] }])
  fields := #[{ name := "bounds", type := (.array .char), accessFlags := 16, slot := 0, constantValue := 0 }, { name := "cardinality", type := .int, accessFlags := 18, slot := 1, constantValue := 0 }, { name := "UNITED", type := (.object "java/lang/ThreadLocal"), accessFlags := 26, slot := 0, constantValue := 0 }]
  methods := #[k4m0]
  instanceTypes := #[(.array .char), .int]
  staticTypes := #[(.object "java/lang/ThreadLocal")]
  resolved := Array.replicate 328 none
  statics := none }

def pool5 : Array CpInfo := pool [(1, u "java/lang/Cloneable"), (0, .class_ 1), (0, u "java/lang/Object"), (0, .class_ 3)] 3

/-- java/lang/Cloneable -/
def k5 : Class := { plain "java/lang/Cloneable" (some 0) with
  accessFlags := 1537
  interfaces := #[]
  cf := some (fileOf pool5 2 #[] #[] 1537 4 #[] #[])
  fields := #[]
  methods := #[]
  instanceTypes := #[]
  staticTypes := #[]
  resolved := Array.replicate 8 none
  statics := none }

def pool6 : Array CpInfo := pool [(1, u "java/io/Serializable"), (0, .class_ 1), (0, u "java/lang/Object"), (0, .class_ 3)] 3

/-- java/io/Serializable -/
def k6 : Class := { plain "java/io/Serializable" (some 0) with
  accessFlags := 1537
  interfaces := #[]
  cf := some (fileOf pool6 2 #[] #[] 1537 4 #[] #[])
  fields := #[]
  methods := #[]
  instanceTypes := #[]
  staticTypes := #[]
  resolved := Array.replicate 8 none
  statics := none }

/-- the primitive byte -/
def k7 : Class := { plain "byte" none with kind := .primitive 'B', accessFlags := 0x411 }
/-- [B -/
def k8 : Class := { plain "[B" (some 0) with kind := .array 7 .byte, interfaces := #[5, 6], accessFlags := 1041 }

/-- the primitive char -/
def k9 : Class := { plain "char" none with kind := .primitive 'C', accessFlags := 0x411 }
/-- [C -/
def k10 : Class := { plain "[C" (some 0) with kind := .array 9 .char, interfaces := #[5, 6], accessFlags := 1041 }

/-- the primitive int -/
def k11 : Class := { plain "int" none with kind := .primitive 'I', accessFlags := 0x411 }
/-- [I -/
def k12 : Class := { plain "[I" (some 0) with kind := .array 11 .int, interfaces := #[5, 6], accessFlags := 1041 }

/-- the primitive long -/
def k13 : Class := { plain "long" none with kind := .primitive 'J', accessFlags := 0x411 }
/-- [J -/
def k14 : Class := { plain "[J" (some 0) with kind := .array 13 .long, interfaces := #[5, 6], accessFlags := 1041 }

def heap : Heap := #[]
def classes : Array Class := #[k0, k1, k2, k3, k4, k5, k6, k7, k8, k9, k10, k11, k12, k13, k14]
def interned : List (Array UInt16 × Addr) := []
def slotsUsed : Nat := 0
def theMethod : MethodId := ⟨1, 1⟩
def args0 : Array Value := #[.int 5, .int 6, .int 7, .int 1, .int 3, .int 9]
def aboutOver (below : List Frame) : State where
  vm := { classes := classes, interned := interned.toArray }
  heap := heap
  slotsUsed := slotsUsed
  threads := #[{ frames := .invoking theMethod args0 :: below }]
def below0 : List Frame := [.native { method := ⟨0, 0⟩, args := #[] }]
def about1 : State := aboutOver below0
def p0 : Program := .bare "" "" ""
def e0 : Env := launch0.env 0 0 0
theorem w_frames : about1.frames = Frame.invoking theMethod args0 :: below0 := rfl
set_option maxRecDepth 65536 in
theorem w_args : argsFit about1.vm theMethod args0 = true := by decide +kernel
set_option maxRecDepth 65536 in
theorem w_heap : heapFits about1 = true := by decide +kernel
set_option maxRecDepth 65536 in
theorem w_runnable : about1.curStatus? = some .runnable := by decide +kernel
set_option maxRecDepth 65536 in
theorem w_alone : about1.alone = true := by decide +kernel
set_option maxRecDepth 65536 in
theorem w_named : about1.methodNamed? x = some theMethod := by decide +kernel
set_option maxRecDepth 65536 in
theorem w_hears : about1.hears theMethod below0 = true := by decide +kernel
set_option maxRecDepth 65536 in
theorem w_ripe : about1.ripe theMethod args0 below0 = true := by decide +kernel
theorem w_running : about1.status = .running := rfl
set_option maxRecDepth 65536 in
theorem w_room : about1.hasRoom e0.platform room_1 = true :=
  launch0.hasRoom_least _ room_1 (by decide +kernel) (by decide +kernel) (by decide +kernel) (by decide +kernel) (by decide +kernel) (by decide +kernel)
theorem allAtoms_all (ts : List Jvm.Cond) (a : Array Jvm.Value) (st : Jvm.State) : (allAtoms ts).before a st = ts.all (fun c => c.before a st) := by
  induction ts with
  | nil => rfl
  | cons c t ih =>
    show (Jvm.Cond.and c (allAtoms t)).before a st = _
    rw [Jvm.Cond.before_and, ih, List.all_cons]
def words1 : List Jvm.Cond := Jvm.Cond.code x code maxLocals ret :: tables_1
/-- a 'code' word, met by the world's own term for the bytes: nothing is compared byte by byte -/
theorem code_word {y : MethodName} {bytes : ByteArray} {mx : Nat} {rt : Option FieldType} {a : Array Value} {s : State} {m : MethodId} {meth : Method} {c : Code} (h1 : s.methodNamed? y = some m) (h2 : s.vm.method? m = some meth) (h3 : meth.code = some c) (h4 : c.code = bytes)
    (h5 : (c.maxLocals == mx && c.exceptionTable.isEmpty && decide (c.maxStack ≤ mostOperands) && decide (meth.sig.returnType = rt) && !meth.locks && decide (parseMethodDescriptor y.desc = some meth.sig)) = true) : (Jvm.Cond.code y bytes mx rt).before a s = true := by
  simp only [Bool.and_eq_true, beq_iff_eq, Bool.not_eq_true', decide_eq_true_eq] at h5
  obtain ⟨⟨⟨⟨⟨g1, g2⟩, g3⟩, g4⟩, g5⟩, g6⟩ := h5
  simp [Cond.before, Cond.holds, Cond.value, h1, h2, h3, h4, g1, g2, g3, g4, g5, g6]
def isCode : Jvm.Cond → Bool
  | .code _ _ _ _ => true
  | _ => false
theorem all_split {L : List Jvm.Cond} {P : Jvm.Cond → Bool} (h1 : L.all (fun c => isCode c || P c) = true) (h2 : ∀ c ∈ L.filter isCode, P c = true) : L.all P = true := by
  refine List.all_eq_true.mpr fun c hc => ?_
  have h := List.all_eq_true.mp h1 c hc
  rcases Bool.eq_false_or_eq_true (isCode c) with hi | hi
  · exact h2 c (List.mem_filter.mpr ⟨hc, hi⟩)
  · simpa [hi] using h
set_option maxRecDepth 65536 in
theorem w_c0 : (Jvm.Cond.code x code maxLocals ret).before args0 about1 = true := code_word (m := ⟨1, 1⟩) (meth := k1m1) (c := k1c1) (by decide +kernel) rfl rfl rfl (by decide +kernel)
set_option maxRecDepth 65536 in
theorem w_c1 : (Jvm.Cond.code ({ cls := "java/lang/Math", name := "min", desc := "(II)I" } : Jvm.MethodName) jdk_29_method_69_code (2 : Nat) (Option.some Jvm.ClassFile.FieldType.int)).before args0 about1 = true := code_word (m := ⟨2, 2⟩) (meth := k2m2) (c := k2c2) (by decide +kernel) rfl rfl rfl (by decide +kernel)
set_option maxRecDepth 65536 in
theorem w_c2 : (Jvm.Cond.code ({ cls := "java/lang/Math", name := "max", desc := "(II)I" } : Jvm.MethodName) jdk_29_method_65_code (2 : Nat) (Option.some Jvm.ClassFile.FieldType.int)).before args0 about1 = true := code_word (m := ⟨2, 1⟩) (meth := k2m1) (c := k2c1) (by decide +kernel) rfl rfl rfl (by decide +kernel)
set_option maxRecDepth 65536 in
theorem w_c3 : (Jvm.Cond.code ({ cls := "com/example/bitstrata/bitstrata/bitmap/RunContainer", name := "orInto", desc := "([J[CI)V" } : Jvm.MethodName) prog_105_method_28_code (11 : Nat) (Option.none : Option Jvm.ClassFile.FieldType)).before args0 about1 = true := code_word (m := ⟨4, 0⟩) (meth := k4m0) (c := k4c0) (by decide +kernel) rfl rfl rfl (by decide +kernel)
def codes1 : List Jvm.Cond := [Jvm.Cond.code x code maxLocals ret, Jvm.Cond.code ({ cls := "java/lang/Math", name := "min", desc := "(II)I" } : Jvm.MethodName) jdk_29_method_69_code (2 : Nat) (Option.some Jvm.ClassFile.FieldType.int), Jvm.Cond.code ({ cls := "java/lang/Math", name := "max", desc := "(II)I" } : Jvm.MethodName) jdk_29_method_65_code (2 : Nat) (Option.some Jvm.ClassFile.FieldType.int), Jvm.Cond.code ({ cls := "com/example/bitstrata/bitstrata/bitmap/RunContainer", name := "orInto", desc := "([J[CI)V" } : Jvm.MethodName) prog_105_method_28_code (11 : Nat) (Option.none : Option Jvm.ClassFile.FieldType)]
set_option maxRecDepth 65536 in
theorem codes_eq : words1.filter isCode = codes1 := rfl
theorem w_codes : ∀ c ∈ words1.filter isCode, c.before args0 about1 = true := by
  rw [codes_eq]
  intro c hc
  simp only [codes1, List.mem_cons, List.not_mem_nil, or_false] at hc
  rcases hc with rfl | rfl | rfl | rfl
  · exact w_c0
  · exact w_c1
  · exact w_c2
  · exact w_c3
set_option maxRecDepth 65536 in
theorem w_t1 : words1.all (fun c => isCode c || c.before args0 about1) = true := by decide +kernel
theorem w_tables : (allAtoms (Jvm.Cond.code x code maxLocals ret :: tables_1)).before args0 about1 = true := by
  rw [allAtoms_all]
  show words1.all (fun c => c.before args0 about1) = true
  refine all_split ?_ w_codes
  rw [w_t1]
set_option maxRecDepth 65536 in
theorem w_case : (Jvm.Cond.and given_1 narrow_1).before args0 about1 = true := by decide +kernel
theorem w_applies : (headSpec (Jvm.Cond.code x code maxLocals ret :: tables_1) room_1).applies x e0.platform about1 = true :=
  (Spec.applies_iff w_frames).mpr ⟨w_running, w_runnable, w_alone, w_named, w_hears, w_ripe, w_room, w_tables⟩
theorem atStart : AtStart classFile x code maxLocals ret World_1 tables_1 room_1 Calls_1 rest_1 Pre_1 launch0 p0 e0 about1 theMethod args0 below0 :=
  ⟨lists_1, trivial, launch0.admits_env _ _ _, launch0.least_env, fairChoices_fair.cas, fairChoices_fair.clock, w_frames, w_args, w_heap, w_applies, trivial, trivial, w_case⟩
end start1
theorem witness_1 : WitnessClaimed_1 := ⟨start1.p0, start1.e0, start1.about1, start1.theMethod, start1.args0, start1.below0, start1.atStart⟩
end Jvm.Pilot.@@N@@
