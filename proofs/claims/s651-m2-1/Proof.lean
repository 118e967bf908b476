import JvmDerived
import JvmDerived.Pilot.@@N@@Statement
import JvmDerived.Pilot.@@N@@Code
set_option linter.unusedVariables false
set_option linter.unusedSimpArgs false
namespace Jvm.RoadKit
open Sem ClassFile Op Lib Jvm.Stand Jvm.Free Jvm.LawKit
section New
variable {p : Program} {l : Launch} {e : Env} {R : Room} {s : State} {m : MethodId} {args : Array Value} {below : List Frame} {meth : Method} {c : Code} {T : State} {locs : List Loc} {cells slots : Nat}
theorem retI (X : Stand p l e R s m args below meth c T locs cells slots) (hx : p.tables.exec = Jvm.exec) {pc : Nat} {Ls : Array Slot} {z : Int32} {rest : List Value} (hret : meth.sig.returnType = some .int) (hd : decode c.code pc = .ok (.ireturn, 1)) {fs : List Frame}
    (hl : ∀ (f : JFrame) (acts : List Action), f.method = m → f.locked = none → f.entered = [] → (doReturn e (T.setTop f) acts (some (.int z))).1 = T.setFrames fs) : Steps p.tables e below (T.setTop (mkF m pc Ls (.int z :: rest))) (T.setFrames fs) := by
  have hm' : T.vm.method? m = some meth := X.method'
  have hn : narrow .int (.int z) = .int z := rfl
  show Steps p.tables e below (T.setTop { method := m, pc := pc, locals := Ls, stack := _ :: rest, locked := none }) _
  jvm_step X.here [X.here.top, hx, hd, hm', hret, hn]
  first | (intro acts; rw [hl _ acts rfl rfl rfl]) | rw [hl _ _ rfl rfl rfl]
  exact Steps.refl _
end New
end Jvm.RoadKit
namespace Jvm.Pilot.@@N@@
open Jvm Jvm.ClassFile Sem Op Lib Jvm.Free Jvm.Stand Jvm.LawKit Jvm.RoadKit Bundle Jvm.Pilot.@@N@@.Jvm.D
abbrev un : Slot := .unset
theorem own_tn {j : Int32} {i : Nat} (hj : j.toInt = (i : Int)) : j.toNatClampNeg = i := by
  simp only [Int32.toNatClampNeg, hj]; rfl
theorem own_inb {j : Int32} {i n k : Nat} (hj : j.toInt = (i : Int)) (hi : i < n) (hn : k = n) : ¬ (j < 0 ∨ k ≤ j.toNatClampNeg) := by
  rw [own_tn hj, hn]
  rintro (h | h)
  · rw [Int32.lt_iff_toInt_lt, hj] at h
    have e0 : (0 : Int32).toInt = 0 := rfl
    omega
  · omega
theorem own_selP {s : State} {a1 a2 : Array Value} {y : MethodName} {n : Nat} (wi : (Jvm.Cond.instantiable y.cls n).before a1 s = true) (hpriv : s.PrivateAt y) (hinst : (Jvm.Cond.instanceMethod y).before a2 s = true) (hy : y.cls ≠ "java/lang/invoke/MethodHandle" ∧ y.cls ≠ "java/lang/invoke/VarHandle") : (Jvm.Cond.selects y.cls y y).before a2 s = true := by
  obtain ⟨c, k, h1, h2, h3, h4, -⟩ := Cond.instantiable_spec wi
  exact selects_self_of_private h1 h2 (by simp at h4; exact h4.1) hpriv hinst hy
def Ends (tb : Tables) (e : Env) (below : List Frame) (G : State → Outcome → Prop) (S : State) : Prop := ∃ s₂ o, Steps tb e below S s₂ ∧ s₂.status = .running ∧ Ended s₂ below o ∧ G s₂ o
section OwnEnds
variable {tb : Tables} {e : Env} {below : List Frame} {G : State → Outcome → Prop} {S S' : State}
theorem Ends.go (h : ∀ t, Steps tb e below S' t → Steps tb e below S t) (k : Ends tb e below G S') : Ends tb e below G S := by
  obtain ⟨s₂, o, a, b⟩ := k
  exact ⟨s₂, o, h _ a, b⟩
theorem Ends.any (h : ∀ G', (∀ s₂ o, G s₂ o → G' s₂ o) → Ends tb e below G' S) : Ends tb e below G S := h G fun _ _ k => k
end OwnEnds
section OwnFin
variable {p : Program} {l : Launch} {e : Env} {R : Room} {s : State} {m : MethodId} {args : Array Value} {below : List Frame} {meth : Method} {c : Code} {T : State} {locs : List Loc} {cells slots : Nat} {G : State → Outcome → Prop}
theorem own_finI (X : Stand p l e R s m args below meth c T locs cells slots) (hx : p.tables.exec = Jvm.exec) {pc : Nat} {Ls : Array Slot} {z : Int32} {rest : List Value} (hret : meth.sig.returnType = some .int) (hlk : meth.locks = false) (hd : decode c.code pc = .ok (.ireturn, 1)) {Q : Option Value → Heap → List Loc → Prop} {C K : Nat}
    (hG : ∀ s₂ o, (∃ v L, o = .returned v ∧ Q v s₂.heap L ∧ FrameEnd s o s₂ L C K) → G s₂ o) (hC : cells ≤ C) (hK : slots ≤ K) (hQ : Q (some (.int z)) T.heap locs) : Ends p.tables e below G (T.setTop (mkF m pc Ls (.int z :: rest))) := by
  obtain ⟨fs, hr, hrun, hended, hW, hsame⟩ := X.leave (v := some (.int z)) (fun h => by rw [hret] at h; cases h)
  exact ⟨_, _, retI X hx hret hd hr, hrun, hended, hG _ _ ⟨_, _, rfl, hQ, ⟨_, rfl⟩, hW, hsame.mono hC hK⟩⟩
theorem own_finS (X : Stand p l e R s m args below meth c T locs cells slots) (hx : p.tables.exec = Jvm.exec) {t : FieldType} {pc : Nat} {Ls : Array Slot} {z : Int32} {rest : List Value} (hret : meth.sig.returnType = some t) (ht : t = .boolean ∨ t = .byte ∨ t = .char ∨ t = .short) (hlk : meth.locks = false) (hd : decode c.code pc = .ok (.ireturn, 1)) {Q : Option Value → Heap → List Loc → Prop} {C K : Nat}
    (hG : ∀ s₂ o, (∃ v L, o = .returned v ∧ Q v s₂.heap L ∧ FrameEnd s o s₂ L C K) → G s₂ o) (hC : cells ≤ C) (hK : slots ≤ K) (hQ : Q (some (.int (nar t z))) T.heap locs) : Ends p.tables e below G (T.setTop (mkF m pc Ls (.int z :: rest))) := by
  obtain ⟨fs, hr, hrun, hended, hW, hsame⟩ := X.leave (v := some (.int (nar t z))) (fun h => by rw [hret] at h; cases h)
  exact ⟨_, _, retN X hx (t := t) hret ht hd hr, hrun, hended, hG _ _ ⟨_, _, rfl, hQ, ⟨_, rfl⟩, hW, hsame.mono hC hK⟩⟩
theorem own_finN (X : Stand p l e R s m args below meth c T locs cells slots) (hx : p.tables.exec = Jvm.exec) {pc : Nat} {Ls : Array Slot} (hret : meth.sig.returnType = none) (hlk : meth.locks = false) (hd : decode c.code pc = .ok (.return_, 1)) {Q : Option Value → Heap → List Loc → Prop} {C K : Nat}
    (hG : ∀ s₂ o, (∃ v L, o = .returned v ∧ Q v s₂.heap L ∧ FrameEnd s o s₂ L C K) → G s₂ o) (hC : cells ≤ C) (hK : slots ≤ K) (hQ : Q none T.heap locs) : Ends p.tables e below G (T.setTop (mkF m pc Ls [])) := by
  obtain ⟨fs, hr, hrun, hended, hW, hsame⟩ := X.leave (v := none) (fun _ => rfl)
  exact ⟨_, _, X.returnOut hx hret hd hr, hrun, hended, hG _ _ ⟨_, _, rfl, hQ, ⟨_, rfl⟩, hW, hsame.mono hC hK⟩⟩
end OwnFin
/-- an array by what each place holds -/
def AF (Z : State) (h : Heap) (a : Addr) (ty : FieldType) (n : Nat) (f : Nat → Value) : Prop := ∃ c : Cell, Arr Z h a c ty ∧ c.slots.size = n ∧ ∀ j, j < n → c.slots[j]? = some (f j)
section OwnAF
variable {Z : State} {h h' : Heap} {a b : Addr} {ty : FieldType} {n sl : Nat} {f g : Nat → Value} {v : Value} {ws : List Addr}
theorem AF.lt (F : AF Z h a ty n f) : a < h.size := by obtain ⟨c, A, -⟩ := F; exact A.lt
theorem AF.ext (F : AF Z h a ty n f) (E : Ext h h') : AF Z h' a ty n f := by obtain ⟨c, A, r⟩ := F; exact ⟨c, A.ext E, r⟩
theorem AF.other (F : AF Z h b ty n f) (W : Wr h h' a sl v) (q : b ≠ a) : AF Z h' b ty n f := by obtain ⟨c, A, r⟩ := F; exact ⟨c, A.other W q, r⟩
theorem AF.keep (F : AF Z h a ty n f) (K : Keep h h' ws) (q : a ∉ ws) : AF Z h' a ty n f := by obtain ⟨c, A, r⟩ := F; exact ⟨c, ⟨K.2.1 a c A.1 q, A.2⟩, r⟩
theorem AF.congr (F : AF Z h a ty n f) (q : ∀ j, j < n → f j = g j) : AF Z h a ty n g := by obtain ⟨c, A, r, u⟩ := F; exact ⟨c, A, r, fun j hj => by rw [u j hj, q j hj]⟩
theorem AF.new {k : ClassId} {z : Int32} (A : Arr Z h a (newA k ty z) ty) (q : z.toNatClampNeg = n) : AF Z h a ty n (fun _ => defaultValue ty) := ⟨_, A, by rw [sz_new]; exact q, fun i hi => by
  rw [← q] at hi; simp [newA, hi]⟩
theorem AF.set (F : AF Z h a ty n f) (W : Wr h h' a sl v) (hs : sl < n) : AF Z h' a ty n (fun k => if k = sl then v else f k) := by
  obtain ⟨c, A, r, u⟩ := F
  refine ⟨_, A.same W, by rw [sz_set]; exact r, fun j hj => ?_⟩
  by_cases q : j = sl
  · subst q; simp [Cell.setSlot, r, hj]
  · have := u j hj
    simp only [Cell.setSlot, if_neg q]
    rw [Array.getElem?_setIfInBounds_ne (fun z => q z.symm)]; exact this
variable {p : Program} {l : Launch} {e : Env} {R : Room} {s : State} {m : MethodId} {args : Array Value} {below : List Frame} {meth : Method} {c : Code} {T : State} {locs : List Loc} {cells slots : Nat}
theorem AF.ldB (F : AF Z h a .byte n f) (X : Stand p l e R s m args below meth c T locs cells slots) (hx : p.tables.exec = Jvm.exec) (hZ : Z.Warmed39 s.vm) (eT : T.heap = h) {j : Int32} {i : Nat} (hj : j.toInt = (i : Int)) (hi : i < n) {v : Value} (hv : f i = v) {g : JFrame} (hg : g.method = m) {rest : List Value} (hs : g.stack = .int j :: .ref a :: rest) (hd : decode c.code g.pc = .ok (.baload, 1)) (target : State)
    (k : Steps p.tables e below (T.setTop { g with pc := g.pc + 1, stack := v :: rest }) target) : Steps p.tables e below (T.setTop g) target := by
  obtain ⟨cl, A, r, u⟩ := F
  exact X.baloadBytes hx (by rw [eT]; exact A.1) (State.isArrayOf_alike hZ.alike A.2.1) A.2.2 (own_inb hj hi r) (by rw [own_tn hj, u i hi, hv]) hg hs hd _ k
theorem AF.ldC (F : AF Z h a .char n f) (X : Stand p l e R s m args below meth c T locs cells slots) (hx : p.tables.exec = Jvm.exec) (hZ : Z.Warmed39 s.vm) (eT : T.heap = h) {j : Int32} {i : Nat} (hj : j.toInt = (i : Int)) (hi : i < n) {v : Value} (hv : f i = v) {g : JFrame} (hg : g.method = m) {rest : List Value} (hs : g.stack = .int j :: .ref a :: rest) (hd : decode c.code g.pc = .ok (.caload, 1)) (target : State)
    (k : Steps p.tables e below (T.setTop { g with pc := g.pc + 1, stack := v :: rest }) target) : Steps p.tables e below (T.setTop g) target := by
  obtain ⟨cl, A, r, u⟩ := F
  exact X.caload hx (by rw [eT]; exact A.1) (State.isArrayOf_alike hZ.alike A.2.1) A.2.2 (own_inb hj hi r) (by rw [own_tn hj, u i hi, hv]) hg hs hd _ k
theorem AF.ldJ (F : AF Z h a .long n f) (X : Stand p l e R s m args below meth c T locs cells slots) (hx : p.tables.exec = Jvm.exec) (hZ : Z.Warmed39 s.vm) (eT : T.heap = h) {j : Int32} {i : Nat} (hj : j.toInt = (i : Int)) (hi : i < n) {v : Value} (hv : f i = v) {g : JFrame} (hg : g.method = m) {rest : List Value} (hs : g.stack = .int j :: .ref a :: rest) (hd : decode c.code g.pc = .ok (.laload, 1)) (target : State)
    (k : Steps p.tables e below (T.setTop { g with pc := g.pc + 1, stack := v :: rest }) target) : Steps p.tables e below (T.setTop g) target := by
  obtain ⟨cl, A, r, u⟩ := F
  exact X.laload hx (by rw [eT]; exact A.1) (State.isArrayOf_alike hZ.alike A.2.1) A.2.2 (own_inb hj hi r) (by rw [own_tn hj, u i hi, hv]) hg hs hd _ k
theorem AF.len (F : AF Z h a ty n f) (X : Stand p l e R s m args below meth c T locs cells slots) (hx : p.tables.exec = Jvm.exec) (hZ : Z.Warmed39 s.vm) (eT : T.heap = h) {z : Int32} (hz : n.toInt32 = z) {g : JFrame} (hg : g.method = m) {rest : List Value} (hs : g.stack = .ref a :: rest) (hd : decode c.code g.pc = .ok (.arraylength, 1)) (target : State)
    (k : Steps p.tables e below (T.setTop { g with pc := g.pc + 1, stack := .int z :: rest }) target) : Steps p.tables e below (T.setTop g) target := by
  obtain ⟨cl, A, r, u⟩ := F
  subst hz r
  exact X.arraylength hx (by rw [eT]; exact A.1) (State.isArrayOf_alike hZ.alike A.2.1) hg hs hd _ k
theorem AF.stB (F : AF Z h a .byte n f) (X : Stand p l e R s m args below meth c T locs cells slots) (hx : p.tables.exec = Jvm.exec) (hZ : Z.Warmed39 s.vm) (eT : T.heap = h) {j x : Int32} {i : Nat} (hj : j.toInt = (i : Int)) (hi : i < n) {g : JFrame} (hg : g.method = m) {rest : List Value} (hs : g.stack = .int x :: .int j :: .ref a :: rest) (hd : decode c.code g.pc = .ok (.bastore, 1)) :
    ∃ T' h', Stand p l e R s m args below meth c T' (locs ++ [⟨a, i⟩]) cells slots ∧ T'.heap = h' ∧ Wr h h' a i (.int (nar .byte x)) ∧ AF Z h' a .byte n (fun k => if k = i then .int (nar .byte x) else f k) ∧ ∀ target, Steps p.tables e below (T'.setTop { g with pc := g.pc + 1, stack := rest }) target → Steps p.tables e below (T.setTop g) target := by
  have F' := F
  obtain ⟨cl, A, r, u⟩ := F
  obtain ⟨T', h', X', e', W', st⟩ := RoadKit.stB X hx hZ eT A (own_inb hj hi r) hg hs hd
  rw [own_tn hj] at X' W'
  exact ⟨T', h', X', e', W', F'.set W' hi, st⟩
theorem AF.stC (F : AF Z h a .char n f) (X : Stand p l e R s m args below meth c T locs cells slots) (hx : p.tables.exec = Jvm.exec) (hZ : Z.Warmed39 s.vm) (eT : T.heap = h) {j x : Int32} {i : Nat} (hj : j.toInt = (i : Int)) (hi : i < n) {g : JFrame} (hg : g.method = m) {rest : List Value} (hs : g.stack = .int x :: .int j :: .ref a :: rest) (hd : decode c.code g.pc = .ok (.castore, 1)) :
    ∃ T' h', Stand p l e R s m args below meth c T' (locs ++ [⟨a, i⟩]) cells slots ∧ T'.heap = h' ∧ Wr h h' a i (.int (nar .char x)) ∧ AF Z h' a .char n (fun k => if k = i then .int (nar .char x) else f k) ∧ ∀ target, Steps p.tables e below (T'.setTop { g with pc := g.pc + 1, stack := rest }) target → Steps p.tables e below (T.setTop g) target := by
  have F' := F
  obtain ⟨cl, A, r, u⟩ := F
  obtain ⟨T', h', X', e', W', st⟩ := RoadKit.stC X hx hZ eT A (own_inb hj hi r) hg hs hd
  rw [own_tn hj] at X' W'
  exact ⟨T', h', X', e', W', F'.set W' hi, st⟩
theorem AF.stJ (F : AF Z h a .long n f) (X : Stand p l e R s m args below meth c T locs cells slots) (hx : p.tables.exec = Jvm.exec) (hZ : Z.Warmed39 s.vm) (eT : T.heap = h) {j : Int32} {x : Int64} {i : Nat} (hj : j.toInt = (i : Int)) (hi : i < n) {g : JFrame} (hg : g.method = m) {rest : List Value} (hs : g.stack = .long x :: .int j :: .ref a :: rest) (hd : decode c.code g.pc = .ok (.lastore, 1)) :
    ∃ T' h', Stand p l e R s m args below meth c T' (locs ++ [⟨a, i⟩]) cells slots ∧ T'.heap = h' ∧ Wr h h' a i (.long x) ∧ AF Z h' a .long n (fun k => if k = i then .long x else f k) ∧ ∀ target, Steps p.tables e below (T'.setTop { g with pc := g.pc + 1, stack := rest }) target → Steps p.tables e below (T.setTop g) target := by
  have F' := F
  obtain ⟨cl, A, r, u⟩ := F
  obtain ⟨T', h', X', e', W', st⟩ := RoadKit.stJ X hx hZ eT A (own_inb hj hi r) hg hs hd
  rw [own_tn hj] at X' W'
  exact ⟨T', h', X', e', W', F'.set W' hi, st⟩
end OwnAF
theorem own_lt {x y : Int32} {a b : Nat} (hx : x.toInt = (a : Int)) (hy : y.toInt = (b : Int)) : x < y ↔ a < b := by rw [Int32.lt_iff_toInt_lt, hx, hy]; omega
theorem own_eqn {x y : Int32} {a b : Nat} (hx : x.toInt = (a : Int)) (hy : y.toInt = (b : Int)) : x = y ↔ a = b := by rw [← Int32.toInt_inj, hx, hy]; omega
theorem own_add {x y : Int32} {a b : Nat} (hx : x.toInt = (a : Int)) (hy : y.toInt = (b : Int)) (h : a + b < 2147483648) : (x + y).toInt = ((a + b : Nat) : Int) := by
  have q1 := c_iadd x y
  have q2 := rng32 (x + y)
  omega
theorem own_iremM (x y : Int32) : x - (x / y) * y = x % y := by
  apply Int32.toInt_inj.mp
  have h1 := Int32.le_toInt (x % y)
  have h2 := Int32.toInt_lt (x % y)
  rw [Int32.toInt_sub, Int32.toInt_mul, Int32.toInt_div, Int.bmod_mul_bmod, Int.sub_bmod_bmod, Int.mul_comm (x.toInt.tdiv y.toInt), ← Int.tmod_def, ← Int32.toInt_mod]
  exact Int.bmod_eq_of_le_mul_two (by omega) (by omega)
theorem own_iremV {x y : Int32} {b : Nat} (hx : 0 ≤ x.toInt) (hy : y.toInt = (b : Int)) : (x - (x / y) * y).toInt = x.toInt % (b : Int) := by
  rw [own_iremM]; exact (c_irem x y b hy).1 hx
theorem own_irem {x y : Int32} {b : Nat} (hx : 0 ≤ x.toInt) (hy : y.toInt = (b : Int)) (hb : 0 < b) : ∃ r : Nat, r < b ∧ (x - (x / y) * y).toInt = (r : Int) := by
  have h := own_iremV hx hy
  have h1 := Int.emod_nonneg x.toInt (b := (b : Int)) (by omega)
  have h2 := Int.emod_lt_of_pos x.toInt (b := (b : Int)) (by omega)
  exact ⟨(x.toInt % (b : Int)).toNat, by omega, by omega⟩
theorem own_mask31 (x : Int32) : 0 ≤ (x &&& 2147483647).toInt := by
  have h := c_mask x 2147483647 31 (by decide) (by decide)
  rw [h]; exact Int.emod_nonneg _ (by decide)
theorem own_ne0 {y : Int32} {b : Nat} (hy : y.toInt = (b : Int)) (hb : 0 < b) : y ≠ 0 := fun h => by
  subst h
  have : (0 : Int32).toInt = 0 := rfl
  omega
/-- the reader: its class, its fields and its array -/
def RD (Z : State) (h : Heap) (r b : Addr) (f : Nat → Int32) (pos bits cnt : Int32) : Prop := Exa Z h r "com/example/dispatchbook/dispatchbook/amqp/WireReader" ∧ Fld Z h r "com/example/dispatchbook/dispatchbook/amqp/WireReader" "bytes" "[B" (.ref b) ∧ Fld Z h r "com/example/dispatchbook/dispatchbook/amqp/WireReader" "position" "I" (.int pos) ∧ Fld Z h r "com/example/dispatchbook/dispatchbook/amqp/WireReader" "bits" "I" (.int bits) ∧ Fld Z h r "com/example/dispatchbook/dispatchbook/amqp/WireReader" "bitCount" "I" (.int cnt) ∧ AF Z h b .byte 3 (fun k => .int (f k))
theorem own_req {pos : Int32} {i : Nat} (hp : pos.toInt = (i : Int)) (hi : i < 3) : ¬ ((3 : Int32) - pos < 1) := by
  have q : pos = 0 ∨ pos = 1 ∨ pos = 2 := by
    have : i = 0 ∨ i = 1 ∨ i = 2 := by omega
    rcases this with rfl | rfl | rfl
    · exact Or.inl (Int32.toInt_inj.mp hp)
    · exact Or.inr (Or.inl (Int32.toInt_inj.mp hp))
    · exact Or.inr (Or.inr (Int32.toInt_inj.mp hp))
  rcases q with rfl | rfl | rfl <;> decide
/-- the bit that bit() reads -/
def bitAt (x c : Int32) : Int32 := (x.toUInt32 >>> (c &&& 31).toUInt32).toInt32 &&& 1
theorem own_low (x : Int32) : (nar .byte (x.toInt8.toInt32)) &&& 255 = x &&& 255 := by
  apply Int32.toInt_inj.mp
  rw [c_mask _ 255 8 (by decide) (by decide), c_mask x 255 8 (by decide) (by decide)]
  have h1 := c_i2b x
  have h2 := c_i2b (x.toInt8.toInt32)
  have e : ((2 ^ 8 : Nat) : Int) = 256 := rfl
  show (x.toInt8.toInt32.toInt8.toInt32).toInt % ((2 ^ 8 : Nat) : Int) = _
  omega
theorem own_bit1 (x : Int32) (k : Fin 8) : (((x &&& 255).toUInt32 >>> ((Int32.ofNat k.val) &&& 31).toUInt32).toInt32 &&& 1) = ((x.toUInt32 >>> ((Int32.ofNat k.val) &&& 31).toUInt32).toInt32 &&& 1) := by
  have e1 : ∀ k : Fin 8, ((Int32.ofNat k.val) &&& 31).toUInt32.toBitVec.toNat = k.val := by decide
  apply Int32.toBitVec_inj.mp
  show ((x.toBitVec &&& 255#32) >>> ((((Int32.ofNat k.val) &&& 31).toUInt32.toBitVec) % 32#32)) &&& 1#32 = (x.toBitVec >>> ((((Int32.ofNat k.val) &&& 31).toUInt32.toBitVec) % 32#32)) &&& 1#32
  generalize x.toBitVec = y
  have e2 : ((((Int32.ofNat k.val) &&& 31).toUInt32.toBitVec) % 32#32).toNat = k.val := by
    rw [BitVec.toNat_umod, e1 k]
    have := k.isLt
    show k.val % 32 = k.val
    omega
  rw [BitVec.ushiftRight_eq', BitVec.ushiftRight_eq', e2]
  apply BitVec.eq_of_getLsbD_eq
  intro i hi
  simp only [BitVec.getLsbD_and, BitVec.getLsbD_ushiftRight]
  by_cases h : i = 0
  · subst h
    have : ∀ k : Fin 8, (255#32).getLsbD (k.val + 0) = true := by decide
    simp [this k]
    have := this k
    simp at this
    simp [this]
  · have : (1#32).getLsbD i = false := by
      have : ∀ k : Fin 32, k.val ≠ 0 → (1#32).getLsbD k.val = false := by decide
      exact this ⟨i, hi⟩ h
    simp [this]
theorem own_neA {Z : State} {h : Heap} {a b : Addr} {C : String} {a0 : Array Value} {k n : Nat} {ty : FieldType} {f : Nat → Value} (F : Exa Z h a C) (wi : (Jvm.Cond.instantiable C k).before a0 Z = true) (G : AF Z h b ty n f) : b ≠ a := by
  obtain ⟨c, A, -⟩ := G
  exact Ne.symm (ne_arr F wi A)
theorem d1_0 : decode prog_11_method_1_code 0 = .ok (.aload_n 0, 1) := by decide +kernel
theorem d1_1 : decode prog_11_method_1_code 1 = .ok (.invokespecial 1, 3) := by decide +kernel
theorem pd_0 : parseMethodDescriptor "()V" = some ⟨[], none⟩ := by decide +kernel
theorem d1_4 : decode prog_11_method_1_code 4 = .ok (.aload_n 0, 1) := by decide +kernel
theorem d1_5 : decode prog_11_method_1_code 5 = .ok (.bipush 8, 2) := by decide +kernel
theorem d1_7 : decode prog_11_method_1_code 7 = .ok (.putfield 7, 3) := by decide +kernel
theorem d1_10 : decode prog_11_method_1_code 10 = .ok (.aload_n 0, 1) := by decide +kernel
theorem d1_11 : decode prog_11_method_1_code 11 = .ok (.aload_n 1, 1) := by decide +kernel
theorem d1_12 : decode prog_11_method_1_code 12 = .ok (.putfield 13, 3) := by decide +kernel
theorem d1_15 : decode prog_11_method_1_code 15 = .ok (.return_, 1) := by decide +kernel
theorem pn_1 : plainName "com/example/dispatchbook/dispatchbook/amqp/WireReader" = true := by first | (simp [plainName, overriddenIn]; done) | decide +kernel
theorem ef_1 (m : MethodId) (x0 : Addr) (x1 : Addr) : entryFrame m #[(.ref x0), (.ref x1)] 2 = mkF m 0 #[rv x0, rv x1] [] := by first | (simp [entryFrame, mkF, argsToLocals, Value.category]; done) | rfl
def Q1 (Z : State) (r : Addr) (b : Addr) (f : Nat → Int32) (h0 : Heap) (n0 : Nat) (v : Option Value) (h : Heap) (L : List Loc) : Prop := v = none ∧ Fr n0 L ∧ Keep h0 h [r] ∧ RD Z h r b f 0 0 8
set_option maxRecDepth 65536 in
set_option maxHeartbeats 40000000 in
theorem rm1 (l : Launch) (Z : State) (a0 : Array Value) (hw : ∀ d ∈ tables_1, d.before a0 Z = true) (ws : List Jvm.Cond) (r : Addr) (b : Addr) (f : Nat → Int32) (h0 : Heap) (n0 : Nat) (Z0 : n0 ≤ h0.size) (E_r : Exa Z h0 r "com/example/dispatchbook/dispatchbook/amqp/WireReader") (F_by : Fld Z h0 r "com/example/dispatchbook/dispatchbook/amqp/WireReader" "bytes" "[B" .null) (F_po : Fld Z h0 r "com/example/dispatchbook/dispatchbook/amqp/WireReader" "position" "I" (.int (0 : Int32))) (F_bi : Fld Z h0 r "com/example/dispatchbook/dispatchbook/amqp/WireReader" "bits" "I" (.int (0 : Int32))) (F_bc : Fld Z h0 r "com/example/dispatchbook/dispatchbook/amqp/WireReader" "bitCount" "I" (.int (0 : Int32))) (V_b : AF Z h0 b .byte 3 (fun k => .int (f k))) (g_r : n0 ≤ r) :
    MetFree l (⟨"com/example/dispatchbook/dispatchbook/amqp/WireReader", "<init>", "([B)V"⟩ : MethodName) (head1 (Jvm.Cond.code (⟨"com/example/dispatchbook/dispatchbook/amqp/WireReader", "<init>", "([B)V"⟩ : MethodName) prog_11_method_1_code 2 none :: ws) ({ frames := 1, cells := 0, slots := 0, locals := 12 } : Room)) (fun a U => a = #[(.ref r), (.ref b)] ∧ Z.Warmed39 U.vm ∧ U.heap = h0) (fun _ _ _ _ _ => True) (fun _ U o U' => ∃ v L, o = .returned v ∧ Q1 Z r b f h0 n0 v U'.heap L ∧ FrameEnd U o U' L ({ frames := 1, cells := 0, slots := 0, locals := 12 } : Room).cells ({ frames := 1, cells := 0, slots := 0, locals := 12 } : Room).slots) := by
  refine MetFree.of_bodySF (plainFor_of_name pn_1) hisR ?_
  intro p e s m args below meth c s₁ Bd hml0 hP hK
  obtain ⟨rfl, hZ, hh⟩ := hP
  have hx := Bd.exec
  have hby := Bd.bytes
  have hml : c.maxLocals = 2 := hml0
  have hown : s.vm.findClass "com/example/dispatchbook/dispatchbook/amqp/WireReader" = some m.cls := findClass_of_methodNamed Bd.named
  have hnm := (name_of_methodNamed Bd.named Bd.method).1
  have X0 : Stand p l e ({ frames := 1, cells := 0, slots := 0, locals := 12 } : Room) s m #[(.ref r), (.ref b)] below meth c s₁ [] 0 0 := Stand.of_body Bd
  have e0 : s₁.heap = h0 := by rw [← hh, Bd.state]; rfl
  have N0 := Fr.nil n0
  show Ends p.tables e below (fun (s₂ : State) (o : Outcome) => ∃ v L, o = .returned v ∧ (Q1 Z r b f h0 n0) v s₂.heap L ∧ FrameEnd s o s₂ L ({ frames := 1, cells := 0, slots := 0, locals := 12 } : Room).cells ({ frames := 1, cells := 0, slots := 0, locals := 12 } : Room).slots) (s₁.setTop (entryFrame m #[(.ref r), (.ref b)] 2))
  refine Ends.any fun G hG => ?_
  refine Ends.go (fun t k => castTop (ef_1 m r b) k) ?_
  show Ends p.tables e below G (s₁.setTop (mkF m 0 #[rv r, rv b] []))
  have ne_b : b ≠ r := own_neA E_r (hw _ (List.mem_of_getElem? (i := 2) rfl)) V_b
  have K0 := Keep.refl h0 [r]
  refine Ends.go (fun _ => XS.aloadN X0.here hx rfl (hb hby d1_0) rfl rfl) ?_
  show Ends p.tables e below G (s₁.setTop (mkF m 1 #[rv r, rv b] [(.ref r)]))
  obtain ⟨T1, X1, e1, st1⟩ := initO X0 hx hZ hown (hw _ (List.mem_of_getElem? (i := 7) rfl)) (hw _ (List.mem_of_getElem? (i := 8) rfl)) (hw _ (List.mem_of_getElem? (i := 9) rfl)) e0 (g := (mkF m 1 #[rv r, rv b] [(.ref r)])) rfl (by rw [hml]; rfl) rfl (hb hby d1_1) (by decide) (W := 0) (by show 2 * 0 + _ ≤ _; exact Nat.le_of_eq rfl) (by decide)
  refine Ends.go (fun _ => st1 _) ?_
  show Ends p.tables e below G (T1.setTop (mkF m 4 #[rv r, rv b] []))
  refine Ends.go (fun _ => XS.aloadN X1.here hx rfl (hb hby d1_4) rfl rfl) ?_
  show Ends p.tables e below G (T1.setTop (mkF m 5 #[rv r, rv b] [(.ref r)]))
  refine Ends.go (fun _ => XS.bipush X1.here hx rfl (hb hby d1_5)) ?_
  show Ends p.tables e below G (T1.setTop (mkF m 7 #[rv r, rv b] [(.int (8 : Int32)), (.ref r)]))
  obtain ⟨T2, h2, X2, e2, W2, st2⟩ := putF X1 hx hZ hown (host := "") (Or.inl (hw _ (List.mem_of_getElem? (i := 10) rfl))) Via.refl e1 F_bc E_r (Or.inl (hw _ (List.mem_of_getElem? (i := 11) rfl))) (hw _ (List.mem_of_getElem? (i := 2) rfl)) (ty := .int) (by decide) rfl rfl (g := (mkF m 7 #[rv r, rv b] [(.int (8 : Int32)), (.ref r)])) rfl rfl (hb hby d1_7)
  have f2_E_r := E_r.wr W2
  have f2_F_r_bytes := F_by.other W2 (Or.inr (slot_ne (Or.inr (hw _ (List.mem_of_getElem? (i := 13) rfl))) (Or.inl (hw _ (List.mem_of_getElem? (i := 11) rfl))) (by decide) (t := (.array .byte)) (t' := .int) (by decide) (by decide)))
  have f2_F_r_position := F_po.other W2 (Or.inr (slot_ne (Or.inl (hw _ (List.mem_of_getElem? (i := 29) rfl))) (Or.inl (hw _ (List.mem_of_getElem? (i := 11) rfl))) (by decide) (t := .int) (t' := .int) (by decide) (by decide)))
  have f2_F_r_bits := F_bi.other W2 (Or.inr (slot_ne (Or.inl (hw _ (List.mem_of_getElem? (i := 31) rfl))) (Or.inl (hw _ (List.mem_of_getElem? (i := 11) rfl))) (by decide) (t := .int) (t' := .int) (by decide) (by decide)))
  have f2_F_r_bitCount := F_bc.same W2
  have f2_V_b := AF.other V_b W2 ne_b
  have sz2 := Nat.le_trans Z0 (Nat.le_of_eq W2.size.symm)
  have K2 := Keep.wr K0 W2 (Or.inl (List.mem_of_getElem? (i := 0) rfl))
  have N2 := Fr.snoc X2 N0 g_r
  refine Ends.go (fun _ => st2 _) ?_
  show Ends p.tables e below G (T2.setTop (mkF m 10 #[rv r, rv b] []))
  refine Ends.go (fun _ => XS.aloadN X2.here hx rfl (hb hby d1_10) rfl rfl) ?_
  show Ends p.tables e below G (T2.setTop (mkF m 11 #[rv r, rv b] [(.ref r)]))
  refine Ends.go (fun _ => XS.aloadN X2.here hx rfl (hb hby d1_11) rfl rfl) ?_
  show Ends p.tables e below G (T2.setTop (mkF m 12 #[rv r, rv b] [(.ref b), (.ref r)]))
  obtain ⟨T3, h3, X3, e3, W3, st3⟩ := putF X2 hx hZ hown (host := "") (Or.inl (hw _ (List.mem_of_getElem? (i := 12) rfl))) Via.refl e2 f2_F_r_bytes f2_E_r (Or.inr ⟨(hw _ (List.mem_of_getElem? (i := 13) rfl)), rfl, hnm⟩) (hw _ (List.mem_of_getElem? (i := 2) rfl)) (ty := (.array .byte)) (by decide) rfl rfl (g := (mkF m 12 #[rv r, rv b] [(.ref b), (.ref r)])) rfl rfl (hb hby d1_12)
  have f3_E_r := f2_E_r.wr W3
  have f3_F_r_bytes := f2_F_r_bytes.same W3
  have f3_F_r_position := f2_F_r_position.other W3 (Or.inr (slot_ne (Or.inl (hw _ (List.mem_of_getElem? (i := 29) rfl))) (Or.inr (hw _ (List.mem_of_getElem? (i := 13) rfl))) (by decide) (t := .int) (t' := (.array .byte)) (by decide) (by decide)))
  have f3_F_r_bits := f2_F_r_bits.other W3 (Or.inr (slot_ne (Or.inl (hw _ (List.mem_of_getElem? (i := 31) rfl))) (Or.inr (hw _ (List.mem_of_getElem? (i := 13) rfl))) (by decide) (t := .int) (t' := (.array .byte)) (by decide) (by decide)))
  have f3_F_r_bitCount := f2_F_r_bitCount.other W3 (Or.inr (slot_ne (Or.inl (hw _ (List.mem_of_getElem? (i := 11) rfl))) (Or.inr (hw _ (List.mem_of_getElem? (i := 13) rfl))) (by decide) (t := .int) (t' := (.array .byte)) (by decide) (by decide)))
  have f3_V_b := AF.other f2_V_b W3 ne_b
  have sz3 := Nat.le_trans sz2 (Nat.le_of_eq W3.size.symm)
  have K3 := Keep.wr K2 W3 (Or.inl (List.mem_of_getElem? (i := 0) rfl))
  have N3 := Fr.snoc X3 N2 g_r
  refine Ends.go (fun _ => st3 _) ?_
  show Ends p.tables e below G (T3.setTop (mkF m 15 #[rv r, rv b] []))
  refine own_finN X3 hx Bd.returns Bd.notSynchronized (hb hby d1_15) (Q := (Q1 Z r b f h0 n0)) hG (by decide) (by decide) ?_
  show (Q1 Z r b f h0 n0) _ T3.heap _
  rw [e3]
  exact ⟨rfl, N3, K3, ⟨f3_E_r, f3_F_r_bytes, f3_F_r_position, f3_F_r_bits, f3_F_r_bitCount, f3_V_b⟩⟩
theorem d5_0 : decode prog_11_method_11_code 0 = .ok (.aload_n 0, 1) := by decide +kernel
theorem d5_1 : decode prog_11_method_11_code 1 = .ok (.getfield 13, 3) := by decide +kernel
theorem d5_4 : decode prog_11_method_11_code 4 = .ok (.arraylength, 1) := by decide +kernel
theorem d5_5 : decode prog_11_method_11_code 5 = .ok (.aload_n 0, 1) := by decide +kernel
theorem d5_6 : decode prog_11_method_11_code 6 = .ok (.getfield 21, 3) := by decide +kernel
theorem d5_9 : decode prog_11_method_11_code 9 = .ok (.isub, 1) := by decide +kernel
theorem d5_10 : decode prog_11_method_11_code 10 = .ok (.iload_n 1, 1) := by decide +kernel
theorem d5_11 : decode prog_11_method_11_code 11 = .ok (.if_icmp .ge 17, 3) := by decide +kernel
theorem d5_14 : decode prog_11_method_11_code 14 = .ok (.new 50, 3) := by decide +kernel
theorem d5_17 : decode prog_11_method_11_code 17 = .ok (.dup, 1) := by decide +kernel
theorem d5_18 : decode prog_11_method_11_code 18 = .ok (.iload_n 1, 1) := by decide +kernel
theorem d5_24 : decode prog_11_method_11_code 24 = .ok (.invokespecial 56, 3) := by decide +kernel
theorem d5_27 : decode prog_11_method_11_code 27 = .ok (.athrow, 1) := by decide +kernel
theorem d5_28 : decode prog_11_method_11_code 28 = .ok (.return_, 1) := by decide +kernel
theorem pn_5 : plainName "com/example/dispatchbook/dispatchbook/amqp/WireReader" = true := by first | (simp [plainName, overriddenIn]; done) | decide +kernel
theorem ef_5 (m : MethodId) (x0 : Addr) (x1 : Int32) : entryFrame m #[(.ref x0), (.int x1)] 2 = mkF m 0 #[rv x0, iv x1] [] := by first | (simp [entryFrame, mkF, argsToLocals, Value.category]; done) | rfl
def Q5 (Z : State) (r : Addr) (one : Int32) (b : Addr) (f : Nat → Int32) (pos : Int32) (bits : Int32) (cnt : Int32) (h0 : Heap) (n0 : Nat) (v : Option Value) (h : Heap) (L : List Loc) : Prop := v = none ∧ Fr n0 L ∧ h = h0
set_option maxRecDepth 65536 in
set_option maxHeartbeats 40000000 in
theorem rm5 (l : Launch) (Z : State) (a0 : Array Value) (hw : ∀ d ∈ tables_1, d.before a0 Z = true) (ws : List Jvm.Cond) (r : Addr) (one : Int32) (b : Addr) (f : Nat → Int32) (pos : Int32) (bits : Int32) (cnt : Int32) (h0 : Heap) (n0 : Nat) (Z0 : n0 ≤ h0.size) (hR : RD Z h0 r b f pos bits cnt) (hc : ¬ ((3 : Int32) - pos < one)) :
    MetFree l (⟨"com/example/dispatchbook/dispatchbook/amqp/WireReader", "require", "(I)V"⟩ : MethodName) (head1 (Jvm.Cond.code (⟨"com/example/dispatchbook/dispatchbook/amqp/WireReader", "require", "(I)V"⟩ : MethodName) prog_11_method_11_code 2 none :: ws) ({ frames := 0, cells := 0, slots := 0, locals := 0 } : Room)) (fun a U => a = #[(.ref r), (.int one)] ∧ Z.Warmed39 U.vm ∧ U.heap = h0) (fun _ _ _ _ _ => True) (fun _ U o U' => ∃ v L, o = .returned v ∧ Q5 Z r one b f pos bits cnt h0 n0 v U'.heap L ∧ FrameEnd U o U' L ({ frames := 0, cells := 0, slots := 0, locals := 0 } : Room).cells ({ frames := 0, cells := 0, slots := 0, locals := 0 } : Room).slots) := by
  refine MetFree.of_bodySF (plainFor_of_name pn_5) hisR ?_
  intro p e s m args below meth c s₁ Bd hml0 hP hK
  obtain ⟨rfl, hZ, hh⟩ := hP
  have hx := Bd.exec
  have hby := Bd.bytes
  have hml : c.maxLocals = 2 := hml0
  have hown : s.vm.findClass "com/example/dispatchbook/dispatchbook/amqp/WireReader" = some m.cls := findClass_of_methodNamed Bd.named
  have hnm := (name_of_methodNamed Bd.named Bd.method).1
  have X0 : Stand p l e ({ frames := 0, cells := 0, slots := 0, locals := 0 } : Room) s m #[(.ref r), (.int one)] below meth c s₁ [] 0 0 := Stand.of_body Bd
  have e0 : s₁.heap = h0 := by rw [← hh, Bd.state]; rfl
  have N0 := Fr.nil n0
  show Ends p.tables e below (fun (s₂ : State) (o : Outcome) => ∃ v L, o = .returned v ∧ (Q5 Z r one b f pos bits cnt h0 n0) v s₂.heap L ∧ FrameEnd s o s₂ L ({ frames := 0, cells := 0, slots := 0, locals := 0 } : Room).cells ({ frames := 0, cells := 0, slots := 0, locals := 0 } : Room).slots) (s₁.setTop (entryFrame m #[(.ref r), (.int one)] 2))
  refine Ends.any fun G hG => ?_
  refine Ends.go (fun t k => castTop (ef_5 m r one) k) ?_
  show Ends p.tables e below G (s₁.setTop (mkF m 0 #[rv r, iv one] []))
  obtain ⟨E_r, F_by, F_po, F_bi, F_bc, V_b⟩ := hR
  have ne_b : b ≠ r := own_neA E_r (hw _ (List.mem_of_getElem? (i := 2) rfl)) V_b
  refine Ends.go (fun _ => XS.aloadN X0.here hx rfl (hb hby d5_0) rfl rfl) ?_
  show Ends p.tables e below G (s₁.setTop (mkF m 1 #[rv r, iv one] [(.ref r)]))
  obtain ⟨T1, X1, e1, st1⟩ := getF X0 hx hZ hown (host := "") (Or.inl (hw _ (List.mem_of_getElem? (i := 12) rfl))) Via.refl e0 F_by (g := (mkF m 1 #[rv r, iv one] [(.ref r)])) rfl rfl (hb hby d5_1)
  refine Ends.go (fun _ => st1 _) ?_
  show Ends p.tables e below G (T1.setTop (mkF m 4 #[rv r, iv one] [(.ref b)]))
  refine Ends.go (fun _ => AF.len V_b X1 hx hZ e1 (z := (3 : Int32)) rfl (g := (mkF m 4 #[rv r, iv one] [(.ref b)])) rfl rfl (hb hby d5_4) _) ?_
  show Ends p.tables e below G (T1.setTop (mkF m 5 #[rv r, iv one] [(.int (3 : Int32))]))
  refine Ends.go (fun _ => XS.aloadN X1.here hx rfl (hb hby d5_5) rfl rfl) ?_
  show Ends p.tables e below G (T1.setTop (mkF m 6 #[rv r, iv one] [(.ref r), (.int (3 : Int32))]))
  obtain ⟨T2, X2, e2, st2⟩ := getF X1 hx hZ hown (host := "") (Or.inl (hw _ (List.mem_of_getElem? (i := 28) rfl))) Via.refl e1 F_po (g := (mkF m 6 #[rv r, iv one] [(.ref r), (.int (3 : Int32))])) rfl rfl (hb hby d5_6)
  refine Ends.go (fun _ => st2 _) ?_
  show Ends p.tables e below G (T2.setTop (mkF m 9 #[rv r, iv one] [(.int pos), (.int (3 : Int32))]))
  refine Ends.go (fun _ => XS.isub X2.here hx rfl (hb hby d5_9) rfl) ?_
  show Ends p.tables e below G (T2.setTop (mkF m 10 #[rv r, iv one] [(.int ((3 : Int32) - pos))]))
  refine Ends.go (fun _ => XS.iloadN X2.here hx rfl (hb hby d5_10) rfl) ?_
  show Ends p.tables e below G (T2.setTop (mkF m 11 #[rv r, iv one] [(.int one), (.int ((3 : Int32) - pos))]))
  refine Ends.go (fun _ => XS.icmpYes X2.here hx rfl (pc0 := 11) (pc' := 28) rfl (hb hby d5_11) rfl (flt (hc : ¬ (((3 : Int32) - pos) < one))).2.1 (by decide) (by decide)) ?_
  show Ends p.tables e below G (T2.setTop (mkF m 28 #[rv r, iv one] []))
  refine own_finN X2 hx Bd.returns Bd.notSynchronized (hb hby d5_28) (Q := (Q5 Z r one b f pos bits cnt h0 n0)) hG (by decide) (by decide) ?_
  show (Q5 Z r one b f pos bits cnt h0 n0) _ T2.heap _
  rw [e2]
  exact ⟨rfl, N0, rfl⟩
theorem d4_0 : decode prog_11_method_2_code 0 = .ok (.aload_n 0, 1) := by decide +kernel
theorem d4_1 : decode prog_11_method_2_code 1 = .ok (.bipush 8, 2) := by decide +kernel
theorem d4_3 : decode prog_11_method_2_code 3 = .ok (.putfield 7, 3) := by decide +kernel
theorem d4_6 : decode prog_11_method_2_code 6 = .ok (.aload_n 0, 1) := by decide +kernel
theorem d4_7 : decode prog_11_method_2_code 7 = .ok (.iconst 1, 1) := by decide +kernel
theorem d4_8 : decode prog_11_method_2_code 8 = .ok (.invokevirtual 17, 3) := by decide +kernel
theorem pd_1 : parseMethodDescriptor "(I)V" = some ⟨[.int], none⟩ := by decide +kernel
theorem d4_11 : decode prog_11_method_2_code 11 = .ok (.aload_n 0, 1) := by decide +kernel
theorem d4_12 : decode prog_11_method_2_code 12 = .ok (.getfield 13, 3) := by decide +kernel
theorem d4_15 : decode prog_11_method_2_code 15 = .ok (.aload_n 0, 1) := by decide +kernel
theorem d4_16 : decode prog_11_method_2_code 16 = .ok (.dup, 1) := by decide +kernel
theorem d4_17 : decode prog_11_method_2_code 17 = .ok (.getfield 21, 3) := by decide +kernel
theorem d4_20 : decode prog_11_method_2_code 20 = .ok (.dup_x1, 1) := by decide +kernel
theorem d4_21 : decode prog_11_method_2_code 21 = .ok (.iconst 1, 1) := by decide +kernel
theorem d4_22 : decode prog_11_method_2_code 22 = .ok (.iadd, 1) := by decide +kernel
theorem d4_23 : decode prog_11_method_2_code 23 = .ok (.putfield 21, 3) := by decide +kernel
theorem d4_26 : decode prog_11_method_2_code 26 = .ok (.baload, 1) := by decide +kernel
theorem d4_27 : decode prog_11_method_2_code 27 = .ok (.sipush 255, 3) := by decide +kernel
theorem d4_30 : decode prog_11_method_2_code 30 = .ok (.iand, 1) := by decide +kernel
theorem d4_31 : decode prog_11_method_2_code 31 = .ok (.ireturn, 1) := by decide +kernel
theorem pn_4 : plainName "com/example/dispatchbook/dispatchbook/amqp/WireReader" = true := by first | (simp [plainName, overriddenIn]; done) | decide +kernel
theorem ef_4 (m : MethodId) (x0 : Addr) : entryFrame m #[(.ref x0)] 1 = mkF m 0 #[rv x0] [] := by first | (simp [entryFrame, mkF, argsToLocals, Value.category]; done) | rfl
def Q4 (Z : State) (r : Addr) (b : Addr) (f : Nat → Int32) (pos : Int32) (bits : Int32) (cnt : Int32) (i : Nat) (h0 : Heap) (n0 : Nat) (v : Option Value) (h : Heap) (L : List Loc) : Prop := v = some (.int (f i &&& 255)) ∧ Fr n0 L ∧ Keep h0 h [r] ∧ RD Z h r b f (pos + 1) bits 8
set_option maxRecDepth 65536 in
set_option maxHeartbeats 40000000 in
theorem rm4 (l : Launch) (Z : State) (a0 : Array Value) (hw : ∀ d ∈ tables_1, d.before a0 Z = true) (ws : List Jvm.Cond) (r : Addr) (b : Addr) (f : Nat → Int32) (pos : Int32) (bits : Int32) (cnt : Int32) (i : Nat) (h0 : Heap) (n0 : Nat) (Z0 : n0 ≤ h0.size) (hR : RD Z h0 r b f pos bits cnt) (g_r : n0 ≤ r) (hp : pos.toInt = (i : Int)) (hi : i < 3) :
    MetFree l (⟨"com/example/dispatchbook/dispatchbook/amqp/WireReader", "octet", "()I"⟩ : MethodName) (head1 (Jvm.Cond.code (⟨"com/example/dispatchbook/dispatchbook/amqp/WireReader", "octet", "()I"⟩ : MethodName) prog_11_method_2_code 1 (some .int) :: ws) ({ frames := 1, cells := 0, slots := 0, locals := 13 } : Room)) (fun a U => a = #[(.ref r)] ∧ Z.Warmed39 U.vm ∧ U.heap = h0) (fun _ _ _ _ _ => True) (fun _ U o U' => ∃ v L, o = .returned v ∧ Q4 Z r b f pos bits cnt i h0 n0 v U'.heap L ∧ FrameEnd U o U' L ({ frames := 1, cells := 0, slots := 0, locals := 13 } : Room).cells ({ frames := 1, cells := 0, slots := 0, locals := 13 } : Room).slots) := by
  refine MetFree.of_bodySF (plainFor_of_name pn_4) hisR ?_
  intro p e s m args below meth c s₁ Bd hml0 hP hK
  obtain ⟨rfl, hZ, hh⟩ := hP
  have hx := Bd.exec
  have hby := Bd.bytes
  have hml : c.maxLocals = 1 := hml0
  have hown : s.vm.findClass "com/example/dispatchbook/dispatchbook/amqp/WireReader" = some m.cls := findClass_of_methodNamed Bd.named
  have hnm := (name_of_methodNamed Bd.named Bd.method).1
  have X0 : Stand p l e ({ frames := 1, cells := 0, slots := 0, locals := 13 } : Room) s m #[(.ref r)] below meth c s₁ [] 0 0 := Stand.of_body Bd
  have e0 : s₁.heap = h0 := by rw [← hh, Bd.state]; rfl
  have N0 := Fr.nil n0
  show Ends p.tables e below (fun (s₂ : State) (o : Outcome) => ∃ v L, o = .returned v ∧ (Q4 Z r b f pos bits cnt i h0 n0) v s₂.heap L ∧ FrameEnd s o s₂ L ({ frames := 1, cells := 0, slots := 0, locals := 13 } : Room).cells ({ frames := 1, cells := 0, slots := 0, locals := 13 } : Room).slots) (s₁.setTop (entryFrame m #[(.ref r)] 1))
  refine Ends.any fun G hG => ?_
  refine Ends.go (fun t k => castTop (ef_4 m r) k) ?_
  show Ends p.tables e below G (s₁.setTop (mkF m 0 #[rv r] []))
  obtain ⟨E_r, F_by, F_po, F_bi, F_bc, V_b⟩ := hR
  have ne_b : b ≠ r := own_neA E_r (hw _ (List.mem_of_getElem? (i := 2) rfl)) V_b
  have K0 := Keep.refl h0 [r]
  refine Ends.go (fun _ => XS.aloadN X0.here hx rfl (hb hby d4_0) rfl rfl) ?_
  show Ends p.tables e below G (s₁.setTop (mkF m 1 #[rv r] [(.ref r)]))
  refine Ends.go (fun _ => XS.bipush X0.here hx rfl (hb hby d4_1)) ?_
  show Ends p.tables e below G (s₁.setTop (mkF m 3 #[rv r] [(.int (8 : Int32)), (.ref r)]))
  obtain ⟨T1, h1, X1, e1, W1, st1⟩ := putF X0 hx hZ hown (host := "") (Or.inl (hw _ (List.mem_of_getElem? (i := 10) rfl))) Via.refl e0 F_bc E_r (Or.inl (hw _ (List.mem_of_getElem? (i := 11) rfl))) (hw _ (List.mem_of_getElem? (i := 2) rfl)) (ty := .int) (by decide) rfl rfl (g := (mkF m 3 #[rv r] [(.int (8 : Int32)), (.ref r)])) rfl rfl (hb hby d4_3)
  have f1_E_r := E_r.wr W1
  have f1_F_r_bytes := F_by.other W1 (Or.inr (slot_ne (Or.inr (hw _ (List.mem_of_getElem? (i := 13) rfl))) (Or.inl (hw _ (List.mem_of_getElem? (i := 11) rfl))) (by decide) (t := (.array .byte)) (t' := .int) (by decide) (by decide)))
  have f1_F_r_position := F_po.other W1 (Or.inr (slot_ne (Or.inl (hw _ (List.mem_of_getElem? (i := 29) rfl))) (Or.inl (hw _ (List.mem_of_getElem? (i := 11) rfl))) (by decide) (t := .int) (t' := .int) (by decide) (by decide)))
  have f1_F_r_bits := F_bi.other W1 (Or.inr (slot_ne (Or.inl (hw _ (List.mem_of_getElem? (i := 31) rfl))) (Or.inl (hw _ (List.mem_of_getElem? (i := 11) rfl))) (by decide) (t := .int) (t' := .int) (by decide) (by decide)))
  have f1_F_r_bitCount := F_bc.same W1
  have f1_V_b := AF.other V_b W1 ne_b
  have sz1 := Nat.le_trans Z0 (Nat.le_of_eq W1.size.symm)
  have K1 := Keep.wr K0 W1 (Or.inl (List.mem_of_getElem? (i := 0) rfl))
  have N1 := Fr.snoc X1 N0 g_r
  refine Ends.go (fun _ => st1 _) ?_
  show Ends p.tables e below G (T1.setTop (mkF m 6 #[rv r] []))
  refine Ends.go (fun _ => XS.aloadN X1.here hx rfl (hb hby d4_6) rfl rfl) ?_
  show Ends p.tables e below G (T1.setTop (mkF m 7 #[rv r] [(.ref r)]))
  refine Ends.go (fun _ => XS.iconst X1.here hx rfl (hb hby d4_7)) ?_
  show Ends p.tables e below G (T1.setTop (mkF m 8 #[rv r] [(.int (1 : Int32)), (.ref r)]))
  obtain ⟨cq2, q2, q2'⟩ := f1_E_r.cell
  obtain ⟨_, _, ⟨T2, L2, k2, n2⟩, -, X2, ⟨Lc2, hQ2, l2, y2, z2⟩, st2⟩ := X1.privateBack hx (y := (⟨"com/example/dispatchbook/dispatchbook/amqp/WireReader", "require", "(I)V"⟩ : MethodName)) hown (mvT hZ (hw _ (List.mem_of_getElem? (i := 24) rfl))) (mvT hZ (hw _ (List.mem_of_getElem? (i := 25) rfl))) (own_selP (a1 := #[]) (mvT hZ (hw _ (List.mem_of_getElem? (i := 2) rfl))) (Cond.privateMethod_at (mvP hZ (hw _ (List.mem_of_getElem? (i := 26) rfl)) (args := #[]))) (mvT hZ (hw _ (List.mem_of_getElem? (i := 25) rfl))) (by decide)) (Cond.privateMethod_at (mvP hZ (hw _ (List.mem_of_getElem? (i := 26) rfl)) (args := #[]))) (mvT hZ (hw _ (List.mem_of_getElem? (i := 27) rfl))) (by decide) (backOf (W := 0) (rm5 l Z a0 hw [] r (1 : Int32) b f pos bits 8 h1 n0 sz1 ⟨f1_E_r, f1_F_r_bytes, f1_F_r_position, f1_F_r_bits, f1_F_r_bitCount, f1_V_b⟩ (own_req hp hi)) hZ (hw _ (List.mem_of_getElem? (i := 27) rfl)) (hw _ (List.mem_of_getElem? (i := 3) rfl)) (by decide) (by decide)) (g := (mkF m 8 #[rv r] [(.int (1 : Int32)), (.ref r)])) rfl (by rw [hml]; rfl) (Steps.refl _) (a := r) (by rw [e1]; exact q2) q2' (argsL := [(.int (1 : Int32))]) (rest := []) (lenOf pd_1 rfl) rfl (by show 2 * 0 + _ ≤ _; exact Nat.le_of_eq rfl) (hb hby d4_8) (fun _ _ => ⟨rfl, e1, (by decide : 0 + 0 ≤ _), (by decide : 0 + 0 ≤ _)⟩)
  dsimp only [Pt.U, Pt.locs, Pt.cells, Pt.slots] at X2 l2 y2 z2 st2 hQ2
  subst l2 y2 z2
  obtain ⟨rfl, N2q, e2⟩ := hQ2
  have N2 := Fr.app N1 N2q
  refine Ends.go (fun _ => st2.trans) ?_
  show Ends p.tables e below G (T2.setTop (mkF m 11 #[rv r] []))
  refine Ends.go (fun _ => XS.aloadN X2.here hx rfl (hb hby d4_11) rfl rfl) ?_
  show Ends p.tables e below G (T2.setTop (mkF m 12 #[rv r] [(.ref r)]))
  obtain ⟨T3, X3, e3, st3⟩ := getF X2 hx hZ hown (host := "") (Or.inl (hw _ (List.mem_of_getElem? (i := 12) rfl))) Via.refl e2 f1_F_r_bytes (g := (mkF m 12 #[rv r] [(.ref r)])) rfl rfl (hb hby d4_12)
  refine Ends.go (fun _ => st3 _) ?_
  show Ends p.tables e below G (T3.setTop (mkF m 15 #[rv r] [(.ref b)]))
  refine Ends.go (fun _ => XS.aloadN X3.here hx rfl (hb hby d4_15) rfl rfl) ?_
  show Ends p.tables e below G (T3.setTop (mkF m 16 #[rv r] [(.ref r), (.ref b)]))
  refine Ends.go (fun _ => XS.dup X3.here hx rfl (hb hby d4_16) rfl rfl) ?_
  show Ends p.tables e below G (T3.setTop (mkF m 17 #[rv r] [(.ref r), (.ref r), (.ref b)]))
  obtain ⟨T4, X4, e4, st4⟩ := getF X3 hx hZ hown (host := "") (Or.inl (hw _ (List.mem_of_getElem? (i := 28) rfl))) Via.refl e3 f1_F_r_position (g := (mkF m 17 #[rv r] [(.ref r), (.ref r), (.ref b)])) rfl rfl (hb hby d4_17)
  refine Ends.go (fun _ => st4 _) ?_
  show Ends p.tables e below G (T4.setTop (mkF m 20 #[rv r] [(.int pos), (.ref r), (.ref b)]))
  refine Ends.go (fun _ => XS.dupX1 X4.here hx rfl (hb hby d4_20) rfl rfl rfl) ?_
  show Ends p.tables e below G (T4.setTop (mkF m 21 #[rv r] [(.int pos), (.ref r), (.int pos), (.ref b)]))
  refine Ends.go (fun _ => XS.iconst X4.here hx rfl (hb hby d4_21)) ?_
  show Ends p.tables e below G (T4.setTop (mkF m 22 #[rv r] [(.int (1 : Int32)), (.int pos), (.ref r), (.int pos), (.ref b)]))
  refine Ends.go (fun _ => XS.iadd X4.here hx rfl (hb hby d4_22) rfl) ?_
  show Ends p.tables e below G (T4.setTop (mkF m 23 #[rv r] [(.int (pos + (1 : Int32))), (.ref r), (.int pos), (.ref b)]))
  obtain ⟨T5, h5, X5, e5, W5, st5⟩ := putF X4 hx hZ hown (host := "") (Or.inl (hw _ (List.mem_of_getElem? (i := 28) rfl))) Via.refl e4 f1_F_r_position f1_E_r (Or.inl (hw _ (List.mem_of_getElem? (i := 29) rfl))) (hw _ (List.mem_of_getElem? (i := 2) rfl)) (ty := .int) (by decide) rfl rfl (g := (mkF m 23 #[rv r] [(.int (pos + (1 : Int32))), (.ref r), (.int pos), (.ref b)])) rfl rfl (hb hby d4_23)
  have f5_E_r := f1_E_r.wr W5
  have f5_F_r_bytes := f1_F_r_bytes.other W5 (Or.inr (slot_ne (Or.inr (hw _ (List.mem_of_getElem? (i := 13) rfl))) (Or.inl (hw _ (List.mem_of_getElem? (i := 29) rfl))) (by decide) (t := (.array .byte)) (t' := .int) (by decide) (by decide)))
  have f5_F_r_position := f1_F_r_position.same W5
  have f5_F_r_bits := f1_F_r_bits.other W5 (Or.inr (slot_ne (Or.inl (hw _ (List.mem_of_getElem? (i := 31) rfl))) (Or.inl (hw _ (List.mem_of_getElem? (i := 29) rfl))) (by decide) (t := .int) (t' := .int) (by decide) (by decide)))
  have f5_F_r_bitCount := f1_F_r_bitCount.other W5 (Or.inr (slot_ne (Or.inl (hw _ (List.mem_of_getElem? (i := 11) rfl))) (Or.inl (hw _ (List.mem_of_getElem? (i := 29) rfl))) (by decide) (t := .int) (t' := .int) (by decide) (by decide)))
  have f5_V_b := AF.other f1_V_b W5 ne_b
  have sz5 := Nat.le_trans sz1 (Nat.le_of_eq W5.size.symm)
  have K5 := Keep.wr K1 W5 (Or.inl (List.mem_of_getElem? (i := 0) rfl))
  have N5 := Fr.snoc X5 N2 g_r
  refine Ends.go (fun _ => st5 _) ?_
  show Ends p.tables e below G (T5.setTop (mkF m 26 #[rv r] [(.int pos), (.ref b)]))
  refine Ends.go (fun _ => AF.ldB f5_V_b X5 hx hZ e5 (j := pos) (i := i) hp hi (v := (.int (f i))) rfl (g := (mkF m 26 #[rv r] [(.int pos), (.ref b)])) rfl rfl (hb hby d4_26) _) ?_
  show Ends p.tables e below G (T5.setTop (mkF m 27 #[rv r] [(.int (f i))]))
  refine Ends.go (fun _ => XS.sipush X5.here hx rfl (hb hby d4_27)) ?_
  show Ends p.tables e below G (T5.setTop (mkF m 30 #[rv r] [(.int (255 : Int32)), (.int (f i))]))
  refine Ends.go (fun _ => XS.iand X5.here hx rfl (hb hby d4_30) rfl) ?_
  show Ends p.tables e below G (T5.setTop (mkF m 31 #[rv r] [(.int ((f i) &&& (255 : Int32)))]))
  refine own_finI X5 hx Bd.returns Bd.notSynchronized (hb hby d4_31) (Q := (Q4 Z r b f pos bits cnt i h0 n0)) hG (by decide) (by decide) ?_
  show (Q4 Z r b f pos bits cnt i h0 n0) _ T5.heap _
  rw [e5]
  exact ⟨rfl, N5, K5, ⟨f5_E_r, f5_F_r_bytes, f5_F_r_position, f5_F_r_bits, f5_F_r_bitCount, f5_V_b⟩⟩
theorem d3_0 : decode prog_11_method_8_code 0 = .ok (.aload_n 0, 1) := by decide +kernel
theorem d3_1 : decode prog_11_method_8_code 1 = .ok (.getfield 7, 3) := by decide +kernel
theorem d3_4 : decode prog_11_method_8_code 4 = .ok (.bipush 8, 2) := by decide +kernel
theorem d3_6 : decode prog_11_method_8_code 6 = .ok (.if_icmp .ne 16, 3) := by decide +kernel
theorem d3_9 : decode prog_11_method_8_code 9 = .ok (.aload_n 0, 1) := by decide +kernel
theorem d3_10 : decode prog_11_method_8_code 10 = .ok (.aload_n 0, 1) := by decide +kernel
theorem d3_11 : decode prog_11_method_8_code 11 = .ok (.invokevirtual 24, 3) := by decide +kernel
theorem pd_2 : parseMethodDescriptor "()I" = some ⟨[], some .int⟩ := by decide +kernel
theorem d3_14 : decode prog_11_method_8_code 14 = .ok (.putfield 59, 3) := by decide +kernel
theorem d3_17 : decode prog_11_method_8_code 17 = .ok (.aload_n 0, 1) := by decide +kernel
theorem d3_18 : decode prog_11_method_8_code 18 = .ok (.iconst 0, 1) := by decide +kernel
theorem d3_19 : decode prog_11_method_8_code 19 = .ok (.putfield 7, 3) := by decide +kernel
theorem d3_22 : decode prog_11_method_8_code 22 = .ok (.aload_n 0, 1) := by decide +kernel
theorem d3_23 : decode prog_11_method_8_code 23 = .ok (.getfield 59, 3) := by decide +kernel
theorem d3_26 : decode prog_11_method_8_code 26 = .ok (.aload_n 0, 1) := by decide +kernel
theorem d3_27 : decode prog_11_method_8_code 27 = .ok (.dup, 1) := by decide +kernel
theorem d3_28 : decode prog_11_method_8_code 28 = .ok (.getfield 7, 3) := by decide +kernel
theorem d3_31 : decode prog_11_method_8_code 31 = .ok (.dup_x1, 1) := by decide +kernel
theorem d3_32 : decode prog_11_method_8_code 32 = .ok (.iconst 1, 1) := by decide +kernel
theorem d3_33 : decode prog_11_method_8_code 33 = .ok (.iadd, 1) := by decide +kernel
theorem d3_34 : decode prog_11_method_8_code 34 = .ok (.putfield 7, 3) := by decide +kernel
theorem d3_37 : decode prog_11_method_8_code 37 = .ok (.iushr, 1) := by decide +kernel
theorem d3_38 : decode prog_11_method_8_code 38 = .ok (.iconst 1, 1) := by decide +kernel
theorem d3_39 : decode prog_11_method_8_code 39 = .ok (.iand, 1) := by decide +kernel
theorem d3_40 : decode prog_11_method_8_code 40 = .ok (.iconst 1, 1) := by decide +kernel
theorem d3_41 : decode prog_11_method_8_code 41 = .ok (.if_icmp .ne 7, 3) := by decide +kernel
theorem d3_44 : decode prog_11_method_8_code 44 = .ok (.iconst 1, 1) := by decide +kernel
theorem d3_45 : decode prog_11_method_8_code 45 = .ok (.goto 4, 3) := by decide +kernel
theorem d3_48 : decode prog_11_method_8_code 48 = .ok (.iconst 0, 1) := by decide +kernel
theorem d3_49 : decode prog_11_method_8_code 49 = .ok (.ireturn, 1) := by decide +kernel
theorem pn_3 : plainName "com/example/dispatchbook/dispatchbook/amqp/WireReader" = true := by first | (simp [plainName, overriddenIn]; done) | decide +kernel
theorem ef_3a (m : MethodId) (x0 : Addr) : entryFrame m #[(.ref x0)] 1 = mkF m 0 #[rv x0] [] := by first | (simp [entryFrame, mkF, argsToLocals, Value.category]; done) | rfl
def Q3a (Z : State) (r : Addr) (b : Addr) (f : Nat → Int32) (pos : Int32) (bits : Int32) (i : Nat) (h0 : Heap) (n0 : Nat) (v : Option Value) (h : Heap) (L : List Loc) : Prop := v = some (.int (bitAt (f i &&& 255) 0)) ∧ Fr n0 L ∧ Keep h0 h [r] ∧ RD Z h r b f (pos + 1) (f i &&& 255) (0 + 1)
set_option maxRecDepth 65536 in
set_option maxHeartbeats 40000000 in
theorem rm3a (l : Launch) (Z : State) (a0 : Array Value) (hw : ∀ d ∈ tables_1, d.before a0 Z = true) (ws : List Jvm.Cond) (r : Addr) (b : Addr) (f : Nat → Int32) (pos : Int32) (bits : Int32) (i : Nat) (h0 : Heap) (n0 : Nat) (Z0 : n0 ≤ h0.size) (hR : RD Z h0 r b f pos bits 8) (g_r : n0 ≤ r) (hp : pos.toInt = (i : Int)) (hi : i < 3) :
    MetFree l (⟨"com/example/dispatchbook/dispatchbook/amqp/WireReader", "bit", "()Z"⟩ : MethodName) (head1 (Jvm.Cond.code (⟨"com/example/dispatchbook/dispatchbook/amqp/WireReader", "bit", "()Z"⟩ : MethodName) prog_11_method_8_code 1 (some .boolean) :: ws) ({ frames := 2, cells := 0, slots := 0, locals := 26 } : Room)) (fun a U => a = #[(.ref r)] ∧ Z.Warmed39 U.vm ∧ U.heap = h0) (fun _ _ _ _ _ => True) (fun _ U o U' => ∃ v L, o = .returned v ∧ Q3a Z r b f pos bits i h0 n0 v U'.heap L ∧ FrameEnd U o U' L ({ frames := 2, cells := 0, slots := 0, locals := 26 } : Room).cells ({ frames := 2, cells := 0, slots := 0, locals := 26 } : Room).slots) := by
  refine MetFree.of_bodySF (plainFor_of_name pn_3) hisR ?_
  intro p e s m args below meth c s₁ Bd hml0 hP hK
  obtain ⟨rfl, hZ, hh⟩ := hP
  have hx := Bd.exec
  have hby := Bd.bytes
  have hml : c.maxLocals = 1 := hml0
  have hown : s.vm.findClass "com/example/dispatchbook/dispatchbook/amqp/WireReader" = some m.cls := findClass_of_methodNamed Bd.named
  have hnm := (name_of_methodNamed Bd.named Bd.method).1
  have X0 : Stand p l e ({ frames := 2, cells := 0, slots := 0, locals := 26 } : Room) s m #[(.ref r)] below meth c s₁ [] 0 0 := Stand.of_body Bd
  have e0 : s₁.heap = h0 := by rw [← hh, Bd.state]; rfl
  have N0 := Fr.nil n0
  show Ends p.tables e below (fun (s₂ : State) (o : Outcome) => ∃ v L, o = .returned v ∧ (Q3a Z r b f pos bits i h0 n0) v s₂.heap L ∧ FrameEnd s o s₂ L ({ frames := 2, cells := 0, slots := 0, locals := 26 } : Room).cells ({ frames := 2, cells := 0, slots := 0, locals := 26 } : Room).slots) (s₁.setTop (entryFrame m #[(.ref r)] 1))
  refine Ends.any fun G hG => ?_
  refine Ends.go (fun t k => castTop (ef_3a m r) k) ?_
  show Ends p.tables e below G (s₁.setTop (mkF m 0 #[rv r] []))
  obtain ⟨E_r, F_by, F_po, F_bi, F_bc, V_b⟩ := hR
  have ne_b : b ≠ r := own_neA E_r (hw _ (List.mem_of_getElem? (i := 2) rfl)) V_b
  have K0 := Keep.refl h0 [r]
  refine Ends.go (fun _ => XS.aloadN X0.here hx rfl (hb hby d3_0) rfl rfl) ?_
  show Ends p.tables e below G (s₁.setTop (mkF m 1 #[rv r] [(.ref r)]))
  obtain ⟨T1, X1, e1, st1⟩ := getF X0 hx hZ hown (host := "") (Or.inl (hw _ (List.mem_of_getElem? (i := 10) rfl))) Via.refl e0 F_bc (g := (mkF m 1 #[rv r] [(.ref r)])) rfl rfl (hb hby d3_1)
  refine Ends.go (fun _ => st1 _) ?_
  show Ends p.tables e below G (T1.setTop (mkF m 4 #[rv r] [(.int (8 : Int32))]))
  refine Ends.go (fun _ => XS.bipush X1.here hx rfl (hb hby d3_4)) ?_
  show Ends p.tables e below G (T1.setTop (mkF m 6 #[rv r] [(.int (8 : Int32)), (.int (8 : Int32))]))
  refine Ends.go (fun _ => XS.icmpNo X1.here hx rfl (hb hby d3_6) rfl (teq (rfl : (8 : Int32) = (8 : Int32))).2) ?_
  show Ends p.tables e below G (T1.setTop (mkF m 9 #[rv r] []))
  refine Ends.go (fun _ => XS.aloadN X1.here hx rfl (hb hby d3_9) rfl rfl) ?_
  show Ends p.tables e below G (T1.setTop (mkF m 10 #[rv r] [(.ref r)]))
  refine Ends.go (fun _ => XS.aloadN X1.here hx rfl (hb hby d3_10) rfl rfl) ?_
  show Ends p.tables e below G (T1.setTop (mkF m 11 #[rv r] [(.ref r), (.ref r)]))
  obtain ⟨cq2, kq2, q2a, q2b, q2c⟩ := isOf hZ e1 E_r
  obtain ⟨_, _, ⟨T2, L2, k2, n2⟩, -, X2, ⟨Lc2, hQ2, l2, y2, z2⟩, st2⟩ := X1.virtualBack hx (y := (⟨"com/example/dispatchbook/dispatchbook/amqp/WireReader", "octet", "()I"⟩ : MethodName)) (z := (⟨"com/example/dispatchbook/dispatchbook/amqp/WireReader", "octet", "()I"⟩ : MethodName)) hown (mvT hZ (hw _ (List.mem_of_getElem? (i := 19) rfl))) (mvT hZ (hw _ (List.mem_of_getElem? (i := 20) rfl))) (notFace_of_selects (args := #[]) (mvT hZ (hw _ (List.mem_of_getElem? (i := 22) rfl)))) (mvT hZ (hw _ (List.mem_of_getElem? (i := 22) rfl))) (mvT hZ (hw _ (List.mem_of_getElem? (i := 21) rfl))) (by decide) (backOf (W := 1) (rm4 l Z a0 hw [] r b f pos bits 8 i h0 n0 Z0 ⟨E_r, F_by, F_po, F_bi, F_bc, V_b⟩ g_r hp hi) hZ (hw _ (List.mem_of_getElem? (i := 23) rfl)) (hw _ (List.mem_of_getElem? (i := 3) rfl)) (by decide) (by decide)) q2a q2c (g := (mkF m 11 #[rv r] [(.ref r), (.ref r)])) rfl (by rw [hml]; rfl) (Steps.refl _) (argsL := []) (rest := [(.ref r)]) (lenOf pd_2 rfl) rfl (by show 2 * 0 + _ ≤ _; exact Nat.le_of_eq rfl) (hb hby d3_11) (fun _ _ => ⟨rfl, e1, (by decide : 0 + 0 ≤ _), (by decide : 0 + 0 ≤ _)⟩)
  dsimp only [Pt.U, Pt.locs, Pt.cells, Pt.slots] at X2 l2 y2 z2 st2 hQ2
  subst l2 y2 z2
  obtain ⟨rfl, N2q, Kq2, R2⟩ := hQ2
  have N2 := Fr.app N0 N2q
  have f2_E_r := Exa.keep E_r Kq2
  have f2_V_b := AF.keep V_b Kq2 (ninS ne_b nin0)
  have sz2 := Nat.le_trans Z0 (Kq2).1
  have K2 := Keep.trans K0 Kq2 (allS (Or.inl (List.mem_of_getElem? (i := 0) rfl)) all0)
  obtain ⟨E_r2, F_by2, F_po2, F_bi2, F_bc2, V_b2⟩ := R2
  refine Ends.go (fun _ => st2.trans) ?_
  show Ends p.tables e below G (T2.setTop (mkF m 14 #[rv r] [(.int (f i &&& 255)), (.ref r)]))
  obtain ⟨T3, h3, X3, e3, W3, st3⟩ := putF X2 hx hZ hown (host := "") (Or.inl (hw _ (List.mem_of_getElem? (i := 30) rfl))) Via.refl rfl F_bi2 E_r2 (Or.inl (hw _ (List.mem_of_getElem? (i := 31) rfl))) (hw _ (List.mem_of_getElem? (i := 2) rfl)) (ty := .int) (by decide) rfl rfl (g := (mkF m 14 #[rv r] [(.int (f i &&& 255)), (.ref r)])) rfl rfl (hb hby d3_14)
  have f3_E_r := E_r2.wr W3
  have f3_F_r_bytes := F_by2.other W3 (Or.inr (slot_ne (Or.inr (hw _ (List.mem_of_getElem? (i := 13) rfl))) (Or.inl (hw _ (List.mem_of_getElem? (i := 31) rfl))) (by decide) (t := (.array .byte)) (t' := .int) (by decide) (by decide)))
  have f3_F_r_position := F_po2.other W3 (Or.inr (slot_ne (Or.inl (hw _ (List.mem_of_getElem? (i := 29) rfl))) (Or.inl (hw _ (List.mem_of_getElem? (i := 31) rfl))) (by decide) (t := .int) (t' := .int) (by decide) (by decide)))
  have f3_F_r_bits := F_bi2.same W3
  have f3_F_r_bitCount := F_bc2.other W3 (Or.inr (slot_ne (Or.inl (hw _ (List.mem_of_getElem? (i := 11) rfl))) (Or.inl (hw _ (List.mem_of_getElem? (i := 31) rfl))) (by decide) (t := .int) (t' := .int) (by decide) (by decide)))
  have f3_V_b := AF.other V_b2 W3 ne_b
  have sz3 := Nat.le_trans sz2 (Nat.le_of_eq W3.size.symm)
  have K3 := Keep.wr K2 W3 (Or.inl (List.mem_of_getElem? (i := 0) rfl))
  have N3 := Fr.snoc X3 N2 g_r
  refine Ends.go (fun _ => st3 _) ?_
  show Ends p.tables e below G (T3.setTop (mkF m 17 #[rv r] []))
  refine Ends.go (fun _ => XS.aloadN X3.here hx rfl (hb hby d3_17) rfl rfl) ?_
  show Ends p.tables e below G (T3.setTop (mkF m 18 #[rv r] [(.ref r)]))
  refine Ends.go (fun _ => XS.iconst X3.here hx rfl (hb hby d3_18)) ?_
  show Ends p.tables e below G (T3.setTop (mkF m 19 #[rv r] [(.int (0 : Int32)), (.ref r)]))
  obtain ⟨T4, h4, X4, e4, W4, st4⟩ := putF X3 hx hZ hown (host := "") (Or.inl (hw _ (List.mem_of_getElem? (i := 10) rfl))) Via.refl e3 f3_F_r_bitCount f3_E_r (Or.inl (hw _ (List.mem_of_getElem? (i := 11) rfl))) (hw _ (List.mem_of_getElem? (i := 2) rfl)) (ty := .int) (by decide) rfl rfl (g := (mkF m 19 #[rv r] [(.int (0 : Int32)), (.ref r)])) rfl rfl (hb hby d3_19)
  have f4_E_r := f3_E_r.wr W4
  have f4_F_r_bytes := f3_F_r_bytes.other W4 (Or.inr (slot_ne (Or.inr (hw _ (List.mem_of_getElem? (i := 13) rfl))) (Or.inl (hw _ (List.mem_of_getElem? (i := 11) rfl))) (by decide) (t := (.array .byte)) (t' := .int) (by decide) (by decide)))
  have f4_F_r_position := f3_F_r_position.other W4 (Or.inr (slot_ne (Or.inl (hw _ (List.mem_of_getElem? (i := 29) rfl))) (Or.inl (hw _ (List.mem_of_getElem? (i := 11) rfl))) (by decide) (t := .int) (t' := .int) (by decide) (by decide)))
  have f4_F_r_bits := f3_F_r_bits.other W4 (Or.inr (slot_ne (Or.inl (hw _ (List.mem_of_getElem? (i := 31) rfl))) (Or.inl (hw _ (List.mem_of_getElem? (i := 11) rfl))) (by decide) (t := .int) (t' := .int) (by decide) (by decide)))
  have f4_F_r_bitCount := f3_F_r_bitCount.same W4
  have f4_V_b := AF.other f3_V_b W4 ne_b
  have sz4 := Nat.le_trans sz3 (Nat.le_of_eq W4.size.symm)
  have K4 := Keep.wr K3 W4 (Or.inl (List.mem_of_getElem? (i := 0) rfl))
  have N4 := Fr.snoc X4 N3 g_r
  refine Ends.go (fun _ => st4 _) ?_
  show Ends p.tables e below G (T4.setTop (mkF m 22 #[rv r] []))
  refine Ends.go (fun _ => XS.aloadN X4.here hx rfl (hb hby d3_22) rfl rfl) ?_
  show Ends p.tables e below G (T4.setTop (mkF m 23 #[rv r] [(.ref r)]))
  obtain ⟨T5, X5, e5, st5⟩ := getF X4 hx hZ hown (host := "") (Or.inl (hw _ (List.mem_of_getElem? (i := 30) rfl))) Via.refl e4 f4_F_r_bits (g := (mkF m 23 #[rv r] [(.ref r)])) rfl rfl (hb hby d3_23)
  refine Ends.go (fun _ => st5 _) ?_
  show Ends p.tables e below G (T5.setTop (mkF m 26 #[rv r] [(.int (f i &&& 255))]))
  refine Ends.go (fun _ => XS.aloadN X5.here hx rfl (hb hby d3_26) rfl rfl) ?_
  show Ends p.tables e below G (T5.setTop (mkF m 27 #[rv r] [(.ref r), (.int (f i &&& 255))]))
  refine Ends.go (fun _ => XS.dup X5.here hx rfl (hb hby d3_27) rfl rfl) ?_
  show Ends p.tables e below G (T5.setTop (mkF m 28 #[rv r] [(.ref r), (.ref r), (.int (f i &&& 255))]))
  obtain ⟨T6, X6, e6, st6⟩ := getF X5 hx hZ hown (host := "") (Or.inl (hw _ (List.mem_of_getElem? (i := 10) rfl))) Via.refl e5 f4_F_r_bitCount (g := (mkF m 28 #[rv r] [(.ref r), (.ref r), (.int (f i &&& 255))])) rfl rfl (hb hby d3_28)
  refine Ends.go (fun _ => st6 _) ?_
  show Ends p.tables e below G (T6.setTop (mkF m 31 #[rv r] [(.int (0 : Int32)), (.ref r), (.int (f i &&& 255))]))
  refine Ends.go (fun _ => XS.dupX1 X6.here hx rfl (hb hby d3_31) rfl rfl rfl) ?_
  show Ends p.tables e below G (T6.setTop (mkF m 32 #[rv r] [(.int (0 : Int32)), (.ref r), (.int (0 : Int32)), (.int (f i &&& 255))]))
  refine Ends.go (fun _ => XS.iconst X6.here hx rfl (hb hby d3_32)) ?_
  show Ends p.tables e below G (T6.setTop (mkF m 33 #[rv r] [(.int (1 : Int32)), (.int (0 : Int32)), (.ref r), (.int (0 : Int32)), (.int (f i &&& 255))]))
  refine Ends.go (fun _ => XS.iadd X6.here hx rfl (hb hby d3_33) rfl) ?_
  show Ends p.tables e below G (T6.setTop (mkF m 34 #[rv r] [(.int ((0 : Int32) + (1 : Int32))), (.ref r), (.int (0 : Int32)), (.int (f i &&& 255))]))
  obtain ⟨T7, h7, X7, e7, W7, st7⟩ := putF X6 hx hZ hown (host := "") (Or.inl (hw _ (List.mem_of_getElem? (i := 10) rfl))) Via.refl e6 f4_F_r_bitCount f4_E_r (Or.inl (hw _ (List.mem_of_getElem? (i := 11) rfl))) (hw _ (List.mem_of_getElem? (i := 2) rfl)) (ty := .int) (by decide) rfl rfl (g := (mkF m 34 #[rv r] [(.int ((0 : Int32) + (1 : Int32))), (.ref r), (.int (0 : Int32)), (.int (f i &&& 255))])) rfl rfl (hb hby d3_34)
  have f7_E_r := f4_E_r.wr W7
  have f7_F_r_bytes := f4_F_r_bytes.other W7 (Or.inr (slot_ne (Or.inr (hw _ (List.mem_of_getElem? (i := 13) rfl))) (Or.inl (hw _ (List.mem_of_getElem? (i := 11) rfl))) (by decide) (t := (.array .byte)) (t' := .int) (by decide) (by decide)))
  have f7_F_r_position := f4_F_r_position.other W7 (Or.inr (slot_ne (Or.inl (hw _ (List.mem_of_getElem? (i := 29) rfl))) (Or.inl (hw _ (List.mem_of_getElem? (i := 11) rfl))) (by decide) (t := .int) (t' := .int) (by decide) (by decide)))
  have f7_F_r_bits := f4_F_r_bits.other W7 (Or.inr (slot_ne (Or.inl (hw _ (List.mem_of_getElem? (i := 31) rfl))) (Or.inl (hw _ (List.mem_of_getElem? (i := 11) rfl))) (by decide) (t := .int) (t' := .int) (by decide) (by decide)))
  have f7_F_r_bitCount := f4_F_r_bitCount.same W7
  have f7_V_b := AF.other f4_V_b W7 ne_b
  have sz7 := Nat.le_trans sz4 (Nat.le_of_eq W7.size.symm)
  have K7 := Keep.wr K4 W7 (Or.inl (List.mem_of_getElem? (i := 0) rfl))
  have N7 := Fr.snoc X7 N4 g_r
  refine Ends.go (fun _ => st7 _) ?_
  show Ends p.tables e below G (T7.setTop (mkF m 37 #[rv r] [(.int (0 : Int32)), (.int (f i &&& 255))]))
  refine Ends.go (fun _ => XS.iushr X7.here hx rfl (hb hby d3_37) rfl) ?_
  show Ends p.tables e below G (T7.setTop (mkF m 38 #[rv r] [(.int (((f i &&& 255).toUInt32 >>> ((0 : Int32) &&& 31).toUInt32).toInt32))]))
  refine Ends.go (fun _ => XS.iconst X7.here hx rfl (hb hby d3_38)) ?_
  show Ends p.tables e below G (T7.setTop (mkF m 39 #[rv r] [(.int (1 : Int32)), (.int (((f i &&& 255).toUInt32 >>> ((0 : Int32) &&& 31).toUInt32).toInt32))]))
  refine Ends.go (fun _ => XS.iand X7.here hx rfl (hb hby d3_39) rfl) ?_
  show Ends p.tables e below G (T7.setTop (mkF m 40 #[rv r] [(.int ((((f i &&& 255).toUInt32 >>> ((0 : Int32) &&& 31).toUInt32).toInt32) &&& (1 : Int32)))]))
  refine Ends.go (fun _ => XS.iconst X7.here hx rfl (hb hby d3_40)) ?_
  show Ends p.tables e below G (T7.setTop (mkF m 41 #[rv r] [(.int (1 : Int32)), (.int ((((f i &&& 255).toUInt32 >>> ((0 : Int32) &&& 31).toUInt32).toInt32) &&& (1 : Int32)))]))
  by_cases hc41 : (((((f i &&& 255).toUInt32 >>> ((0 : Int32) &&& 31).toUInt32).toInt32) &&& (1 : Int32)) = (1 : Int32))
  · refine Ends.go (fun _ => XS.icmpNo X7.here hx rfl (hb hby d3_41) rfl (teq (hc41 : ((((f i &&& 255).toUInt32 >>> ((0 : Int32) &&& 31).toUInt32).toInt32) &&& (1 : Int32)) = (1 : Int32))).2) ?_
    show Ends p.tables e below G (T7.setTop (mkF m 44 #[rv r] []))
    refine Ends.go (fun _ => XS.iconst X7.here hx rfl (hb hby d3_44)) ?_
    show Ends p.tables e below G (T7.setTop (mkF m 45 #[rv r] [(.int (1 : Int32))]))
    refine Ends.go (fun _ => XS.goto X7.here hx rfl (pc0 := 45) (pc' := 49) rfl (hb hby d3_45) (by decide) (by decide)) ?_
    show Ends p.tables e below G (T7.setTop (mkF m 49 #[rv r] [(.int (1 : Int32))]))
    refine own_finS (t := .boolean) X7 hx Bd.returns (by simp) Bd.notSynchronized (hb hby d3_49) (Q := (Q3a Z r b f pos bits i h0 n0)) hG (by decide) (by decide) ?_
    show (Q3a Z r b f pos bits i h0 n0) _ T7.heap _
    rw [e7]
    exact ⟨by rw [show bitAt (f i &&& 255) (0 : Int32) = 1 from hc41]; rfl, N7, K7, ⟨f7_E_r, f7_F_r_bytes, f7_F_r_position, f7_F_r_bits, f7_F_r_bitCount, f7_V_b⟩⟩
  · refine Ends.go (fun _ => XS.icmpYes X7.here hx rfl (pc0 := 41) (pc' := 48) rfl (hb hby d3_41) rfl (feq (hc41 : ¬ (((((f i &&& 255).toUInt32 >>> ((0 : Int32) &&& 31).toUInt32).toInt32) &&& (1 : Int32)) = (1 : Int32)))).2 (by decide) (by decide)) ?_
    show Ends p.tables e below G (T7.setTop (mkF m 48 #[rv r] []))
    refine Ends.go (fun _ => XS.iconst X7.here hx rfl (hb hby d3_48)) ?_
    show Ends p.tables e below G (T7.setTop (mkF m 49 #[rv r] [(.int (0 : Int32))]))
    refine own_finS (t := .boolean) X7 hx Bd.returns (by simp) Bd.notSynchronized (hb hby d3_49) (Q := (Q3a Z r b f pos bits i h0 n0)) hG (by decide) (by decide) ?_
    show (Q3a Z r b f pos bits i h0 n0) _ T7.heap _
    rw [e7]
    exact ⟨by rw [show bitAt (f i &&& 255) (0 : Int32) = 0 from ((and_one _).resolve_right hc41)]; rfl, N7, K7, ⟨f7_E_r, f7_F_r_bytes, f7_F_r_position, f7_F_r_bits, f7_F_r_bitCount, f7_V_b⟩⟩
theorem ef_3b (m : MethodId) (x0 : Addr) : entryFrame m #[(.ref x0)] 1 = mkF m 0 #[rv x0] [] := by first | (simp [entryFrame, mkF, argsToLocals, Value.category]; done) | rfl
def Q3b (Z : State) (r : Addr) (b : Addr) (f : Nat → Int32) (pos : Int32) (bits : Int32) (cnt : Int32) (h0 : Heap) (n0 : Nat) (v : Option Value) (h : Heap) (L : List Loc) : Prop := v = some (.int (bitAt bits cnt)) ∧ Fr n0 L ∧ Keep h0 h [r] ∧ RD Z h r b f pos bits (cnt + 1)
set_option maxRecDepth 65536 in
set_option maxHeartbeats 40000000 in
theorem rm3b (l : Launch) (Z : State) (a0 : Array Value) (hw : ∀ d ∈ tables_1, d.before a0 Z = true) (ws : List Jvm.Cond) (r : Addr) (b : Addr) (f : Nat → Int32) (pos : Int32) (bits : Int32) (cnt : Int32) (h0 : Heap) (n0 : Nat) (Z0 : n0 ≤ h0.size) (hR : RD Z h0 r b f pos bits cnt) (g_r : n0 ≤ r) (hc : ¬ (cnt = 8)) :
    MetFree l (⟨"com/example/dispatchbook/dispatchbook/amqp/WireReader", "bit", "()Z"⟩ : MethodName) (head1 (Jvm.Cond.code (⟨"com/example/dispatchbook/dispatchbook/amqp/WireReader", "bit", "()Z"⟩ : MethodName) prog_11_method_8_code 1 (some .boolean) :: ws) ({ frames := 2, cells := 0, slots := 0, locals := 26 } : Room)) (fun a U => a = #[(.ref r)] ∧ Z.Warmed39 U.vm ∧ U.heap = h0) (fun _ _ _ _ _ => True) (fun _ U o U' => ∃ v L, o = .returned v ∧ Q3b Z r b f pos bits cnt h0 n0 v U'.heap L ∧ FrameEnd U o U' L ({ frames := 2, cells := 0, slots := 0, locals := 26 } : Room).cells ({ frames := 2, cells := 0, slots := 0, locals := 26 } : Room).slots) := by
  refine MetFree.of_bodySF (plainFor_of_name pn_3) hisR ?_
  intro p e s m args below meth c s₁ Bd hml0 hP hK
  obtain ⟨rfl, hZ, hh⟩ := hP
  have hx := Bd.exec
  have hby := Bd.bytes
  have hml : c.maxLocals = 1 := hml0
  have hown : s.vm.findClass "com/example/dispatchbook/dispatchbook/amqp/WireReader" = some m.cls := findClass_of_methodNamed Bd.named
  have hnm := (name_of_methodNamed Bd.named Bd.method).1
  have X0 : Stand p l e ({ frames := 2, cells := 0, slots := 0, locals := 26 } : Room) s m #[(.ref r)] below meth c s₁ [] 0 0 := Stand.of_body Bd
  have e0 : s₁.heap = h0 := by rw [← hh, Bd.state]; rfl
  have N0 := Fr.nil n0
  show Ends p.tables e below (fun (s₂ : State) (o : Outcome) => ∃ v L, o = .returned v ∧ (Q3b Z r b f pos bits cnt h0 n0) v s₂.heap L ∧ FrameEnd s o s₂ L ({ frames := 2, cells := 0, slots := 0, locals := 26 } : Room).cells ({ frames := 2, cells := 0, slots := 0, locals := 26 } : Room).slots) (s₁.setTop (entryFrame m #[(.ref r)] 1))
  refine Ends.any fun G hG => ?_
  refine Ends.go (fun t k => castTop (ef_3b m r) k) ?_
  show Ends p.tables e below G (s₁.setTop (mkF m 0 #[rv r] []))
  obtain ⟨E_r, F_by, F_po, F_bi, F_bc, V_b⟩ := hR
  have ne_b : b ≠ r := own_neA E_r (hw _ (List.mem_of_getElem? (i := 2) rfl)) V_b
  have K0 := Keep.refl h0 [r]
  refine Ends.go (fun _ => XS.aloadN X0.here hx rfl (hb hby d3_0) rfl rfl) ?_
  show Ends p.tables e below G (s₁.setTop (mkF m 1 #[rv r] [(.ref r)]))
  obtain ⟨T1, X1, e1, st1⟩ := getF X0 hx hZ hown (host := "") (Or.inl (hw _ (List.mem_of_getElem? (i := 10) rfl))) Via.refl e0 F_bc (g := (mkF m 1 #[rv r] [(.ref r)])) rfl rfl (hb hby d3_1)
  refine Ends.go (fun _ => st1 _) ?_
  show Ends p.tables e below G (T1.setTop (mkF m 4 #[rv r] [(.int cnt)]))
  refine Ends.go (fun _ => XS.bipush X1.here hx rfl (hb hby d3_4)) ?_
  show Ends p.tables e below G (T1.setTop (mkF m 6 #[rv r] [(.int (8 : Int32)), (.int cnt)]))
  refine Ends.go (fun _ => XS.icmpYes X1.here hx rfl (pc0 := 6) (pc' := 22) rfl (hb hby d3_6) rfl (feq (hc : ¬ (cnt = (8 : Int32)))).2 (by decide) (by decide)) ?_
  show Ends p.tables e below G (T1.setTop (mkF m 22 #[rv r] []))
  refine Ends.go (fun _ => XS.aloadN X1.here hx rfl (hb hby d3_22) rfl rfl) ?_
  show Ends p.tables e below G (T1.setTop (mkF m 23 #[rv r] [(.ref r)]))
  obtain ⟨T2, X2, e2, st2⟩ := getF X1 hx hZ hown (host := "") (Or.inl (hw _ (List.mem_of_getElem? (i := 30) rfl))) Via.refl e1 F_bi (g := (mkF m 23 #[rv r] [(.ref r)])) rfl rfl (hb hby d3_23)
  refine Ends.go (fun _ => st2 _) ?_
  show Ends p.tables e below G (T2.setTop (mkF m 26 #[rv r] [(.int bits)]))
  refine Ends.go (fun _ => XS.aloadN X2.here hx rfl (hb hby d3_26) rfl rfl) ?_
  show Ends p.tables e below G (T2.setTop (mkF m 27 #[rv r] [(.ref r), (.int bits)]))
  refine Ends.go (fun _ => XS.dup X2.here hx rfl (hb hby d3_27) rfl rfl) ?_
  show Ends p.tables e below G (T2.setTop (mkF m 28 #[rv r] [(.ref r), (.ref r), (.int bits)]))
  obtain ⟨T3, X3, e3, st3⟩ := getF X2 hx hZ hown (host := "") (Or.inl (hw _ (List.mem_of_getElem? (i := 10) rfl))) Via.refl e2 F_bc (g := (mkF m 28 #[rv r] [(.ref r), (.ref r), (.int bits)])) rfl rfl (hb hby d3_28)
  refine Ends.go (fun _ => st3 _) ?_
  show Ends p.tables e below G (T3.setTop (mkF m 31 #[rv r] [(.int cnt), (.ref r), (.int bits)]))
  refine Ends.go (fun _ => XS.dupX1 X3.here hx rfl (hb hby d3_31) rfl rfl rfl) ?_
  show Ends p.tables e below G (T3.setTop (mkF m 32 #[rv r] [(.int cnt), (.ref r), (.int cnt), (.int bits)]))
  refine Ends.go (fun _ => XS.iconst X3.here hx rfl (hb hby d3_32)) ?_
  show Ends p.tables e below G (T3.setTop (mkF m 33 #[rv r] [(.int (1 : Int32)), (.int cnt), (.ref r), (.int cnt), (.int bits)]))
  refine Ends.go (fun _ => XS.iadd X3.here hx rfl (hb hby d3_33) rfl) ?_
  show Ends p.tables e below G (T3.setTop (mkF m 34 #[rv r] [(.int (cnt + (1 : Int32))), (.ref r), (.int cnt), (.int bits)]))
  obtain ⟨T4, h4, X4, e4, W4, st4⟩ := putF X3 hx hZ hown (host := "") (Or.inl (hw _ (List.mem_of_getElem? (i := 10) rfl))) Via.refl e3 F_bc E_r (Or.inl (hw _ (List.mem_of_getElem? (i := 11) rfl))) (hw _ (List.mem_of_getElem? (i := 2) rfl)) (ty := .int) (by decide) rfl rfl (g := (mkF m 34 #[rv r] [(.int (cnt + (1 : Int32))), (.ref r), (.int cnt), (.int bits)])) rfl rfl (hb hby d3_34)
  have f4_E_r := E_r.wr W4
  have f4_F_r_bytes := F_by.other W4 (Or.inr (slot_ne (Or.inr (hw _ (List.mem_of_getElem? (i := 13) rfl))) (Or.inl (hw _ (List.mem_of_getElem? (i := 11) rfl))) (by decide) (t := (.array .byte)) (t' := .int) (by decide) (by decide)))
  have f4_F_r_position := F_po.other W4 (Or.inr (slot_ne (Or.inl (hw _ (List.mem_of_getElem? (i := 29) rfl))) (Or.inl (hw _ (List.mem_of_getElem? (i := 11) rfl))) (by decide) (t := .int) (t' := .int) (by decide) (by decide)))
  have f4_F_r_bits := F_bi.other W4 (Or.inr (slot_ne (Or.inl (hw _ (List.mem_of_getElem? (i := 31) rfl))) (Or.inl (hw _ (List.mem_of_getElem? (i := 11) rfl))) (by decide) (t := .int) (t' := .int) (by decide) (by decide)))
  have f4_F_r_bitCount := F_bc.same W4
  have f4_V_b := AF.other V_b W4 ne_b
  have sz4 := Nat.le_trans Z0 (Nat.le_of_eq W4.size.symm)
  have K4 := Keep.wr K0 W4 (Or.inl (List.mem_of_getElem? (i := 0) rfl))
  have N4 := Fr.snoc X4 N0 g_r
  refine Ends.go (fun _ => st4 _) ?_
  show Ends p.tables e below G (T4.setTop (mkF m 37 #[rv r] [(.int cnt), (.int bits)]))
  refine Ends.go (fun _ => XS.iushr X4.here hx rfl (hb hby d3_37) rfl) ?_
  show Ends p.tables e below G (T4.setTop (mkF m 38 #[rv r] [(.int ((bits.toUInt32 >>> (cnt &&& 31).toUInt32).toInt32))]))
  refine Ends.go (fun _ => XS.iconst X4.here hx rfl (hb hby d3_38)) ?_
  show Ends p.tables e below G (T4.setTop (mkF m 39 #[rv r] [(.int (1 : Int32)), (.int ((bits.toUInt32 >>> (cnt &&& 31).toUInt32).toInt32))]))
  refine Ends.go (fun _ => XS.iand X4.here hx rfl (hb hby d3_39) rfl) ?_
  show Ends p.tables e below G (T4.setTop (mkF m 40 #[rv r] [(.int (((bits.toUInt32 >>> (cnt &&& 31).toUInt32).toInt32) &&& (1 : Int32)))]))
  refine Ends.go (fun _ => XS.iconst X4.here hx rfl (hb hby d3_40)) ?_
  show Ends p.tables e below G (T4.setTop (mkF m 41 #[rv r] [(.int (1 : Int32)), (.int (((bits.toUInt32 >>> (cnt &&& 31).toUInt32).toInt32) &&& (1 : Int32)))]))
  by_cases hc41 : ((((bits.toUInt32 >>> (cnt &&& 31).toUInt32).toInt32) &&& (1 : Int32)) = (1 : Int32))
  · refine Ends.go (fun _ => XS.icmpNo X4.here hx rfl (hb hby d3_41) rfl (teq (hc41 : (((bits.toUInt32 >>> (cnt &&& 31).toUInt32).toInt32) &&& (1 : Int32)) = (1 : Int32))).2) ?_
    show Ends p.tables e below G (T4.setTop (mkF m 44 #[rv r] []))
    refine Ends.go (fun _ => XS.iconst X4.here hx rfl (hb hby d3_44)) ?_
    show Ends p.tables e below G (T4.setTop (mkF m 45 #[rv r] [(.int (1 : Int32))]))
    refine Ends.go (fun _ => XS.goto X4.here hx rfl (pc0 := 45) (pc' := 49) rfl (hb hby d3_45) (by decide) (by decide)) ?_
    show Ends p.tables e below G (T4.setTop (mkF m 49 #[rv r] [(.int (1 : Int32))]))
    refine own_finS (t := .boolean) X4 hx Bd.returns (by simp) Bd.notSynchronized (hb hby d3_49) (Q := (Q3b Z r b f pos bits cnt h0 n0)) hG (by decide) (by decide) ?_
    show (Q3b Z r b f pos bits cnt h0 n0) _ T4.heap _
    rw [e4]
    exact ⟨by rw [show bitAt bits cnt = 1 from hc41]; rfl, N4, K4, ⟨f4_E_r, f4_F_r_bytes, f4_F_r_position, f4_F_r_bits, f4_F_r_bitCount, f4_V_b⟩⟩
  · refine Ends.go (fun _ => XS.icmpYes X4.here hx rfl (pc0 := 41) (pc' := 48) rfl (hb hby d3_41) rfl (feq (hc41 : ¬ ((((bits.toUInt32 >>> (cnt &&& 31).toUInt32).toInt32) &&& (1 : Int32)) = (1 : Int32)))).2 (by decide) (by decide)) ?_
    show Ends p.tables e below G (T4.setTop (mkF m 48 #[rv r] []))
    refine Ends.go (fun _ => XS.iconst X4.here hx rfl (hb hby d3_48)) ?_
    show Ends p.tables e below G (T4.setTop (mkF m 49 #[rv r] [(.int (0 : Int32))]))
    refine own_finS (t := .boolean) X4 hx Bd.returns (by simp) Bd.notSynchronized (hb hby d3_49) (Q := (Q3b Z r b f pos bits cnt h0 n0)) hG (by decide) (by decide) ?_
    show (Q3b Z r b f pos bits cnt h0 n0) _ T4.heap _
    rw [e4]
    exact ⟨by rw [show bitAt bits cnt = 0 from ((and_one _).resolve_right hc41)]; rfl, N4, K4, ⟨f4_E_r, f4_F_r_bytes, f4_F_r_position, f4_F_r_bits, f4_F_r_bitCount, f4_V_b⟩⟩
def own_f (a b c : Int32) (k : Nat) : Int32 := if k = 2 then nar .byte (c.toInt8.toInt32) else if k = 1 then nar .byte (b.toInt8.toInt32) else nar .byte (a.toInt8.toInt32)
theorem own_lo0 (va vb vc : Int32) : own_f va vb vc 0 &&& 255 = va &&& 255 := own_low va
theorem own_lo1 (va vb vc : Int32) : own_f va vb vc 1 &&& 255 = vb &&& 255 := own_low vb
theorem own_lo2 (va vb vc : Int32) : own_f va vb vc 2 &&& 255 = vc &&& 255 := own_low vc
theorem own_b0 (x : Int32) : bitAt (x &&& 255) 0 = x &&& 1 := by
  have := own_bit1 x ⟨0, by decide⟩
  refine Eq.trans (show bitAt (x &&& 255) 0 = _ from this) ?_
  apply Int32.toBitVec_inj.mp
  show (x.toBitVec >>> (0#32 % 32#32)) &&& 1#32 = x.toBitVec &&& 1#32
  simp
theorem pd_3 : parseMethodDescriptor "([B)V" = some ⟨[(.array .byte)], none⟩ := by decide +kernel
theorem pd_4 : parseMethodDescriptor "()Z" = some ⟨[], some .boolean⟩ := by decide +kernel
theorem pn_0 : plainName "com/example/dispatchbook/dispatchbook/amqp/WireReaderOctetPinLaw" = true := by first | (simp [plainName, overriddenIn]; done) | decide +kernel
theorem ef_0 (m : MethodId) (x0 : Int32) (x1 : Int32) (x2 : Int32) (x3 : Int32) : entryFrame m #[(.int x0), (.int x1), (.int x2), (.int x3)] maxLocals = mkF m 0 #[iv x0, iv x1, iv x2, iv x3, un, un, un, un, un] [] := by first | (simp [entryFrame, mkF, argsToLocals, Value.category, maxLocals]; done) | rfl
def Q0 (Z : State) (va : Int32) (vb : Int32) (vc : Int32) (vm : Int32) (h0 : Heap) (n0 : Nat) (v : Option Value) (h : Heap) (L : List Loc) : Prop := v = some (.int 1) ∧ Fr n0 L
set_option maxRecDepth 65536 in
set_option maxHeartbeats 40000000 in
theorem rm0 (l : Launch) (Z : State) (a0 : Array Value) (hw : ∀ d ∈ tables_1, d.before a0 Z = true) (ws : List Jvm.Cond) (va : Int32) (vb : Int32) (vc : Int32) (vm : Int32) (h0 : Heap) (n0 : Nat) (Z0 : n0 ≤ h0.size) :
    MetFree l x (head1 (Jvm.Cond.code x code maxLocals ret :: ws) room_1) (fun a U => a = #[(.int va), (.int vb), (.int vc), (.int vm)] ∧ Z.Warmed39 U.vm ∧ U.heap = h0) (fun _ _ _ _ _ => True) (fun _ U o U' => ∃ v L, o = .returned v ∧ Q0 Z va vb vc vm h0 n0 v U'.heap L ∧ FrameEnd U o U' L room_1.cells room_1.slots) := by
  refine MetFree.of_bodySF (plainFor_of_name pn_0) hisR ?_
  intro p e s m args below meth c s₁ Bd hml0 hP hK
  obtain ⟨rfl, hZ, hh⟩ := hP
  have hx := Bd.exec
  have hby := Bd.bytes
  have hml : c.maxLocals = 9 := hml0
  have hown : s.vm.findClass "com/example/dispatchbook/dispatchbook/amqp/WireReaderOctetPinLaw" = some m.cls := findClass_of_methodNamed Bd.named
  have hnm := (name_of_methodNamed Bd.named Bd.method).1
  have X0 : Stand p l e room_1 s m #[(.int va), (.int vb), (.int vc), (.int vm)] below meth c s₁ [] 0 0 := Stand.of_body Bd
  have e0 : s₁.heap = h0 := by rw [← hh, Bd.state]; rfl
  have N0 := Fr.nil n0
  show Ends p.tables e below (fun (s₂ : State) (o : Outcome) => ∃ v L, o = .returned v ∧ (Q0 Z va vb vc vm h0 n0) v s₂.heap L ∧ FrameEnd s o s₂ L room_1.cells room_1.slots) (s₁.setTop (entryFrame m #[(.int va), (.int vb), (.int vc), (.int vm)] maxLocals))
  refine Ends.any fun G hG => ?_
  refine Ends.go (fun t k => castTop (ef_0 m va vb vc vm) k) ?_
  show Ends p.tables e below G (s₁.setTop (mkF m 0 #[iv va, iv vb, iv vc, iv vm, un, un, un, un, un] []))
  refine Ends.go (fun _ => XS.iconst X0.here hx rfl (hb hby at_0)) ?_
  show Ends p.tables e below G (s₁.setTop (mkF m 1 #[iv va, iv vb, iv vc, iv vm, un, un, un, un, un] [(.int (3 : Int32))]))
  obtain ⟨T1, h1, k1, X1, e1, E1, A1, st1⟩ := newP X0 hx hZ (hw _ (List.mem_of_getElem? (i := 0) rfl)) e0 (g := (mkF m 1 #[iv va, iv vb, iv vc, iv vm, un, un, un, un, un] [(.int (3 : Int32))])) rfl (hb hby at_1) rfl (by decide) (cap := 3) (by decide) (by decide) (by decide) (by decide)
  obtain ⟨b1, g1⟩ : ∃ z, z = h0.size := ⟨_, rfl⟩
  rw [← g1] at A1 st1
  have g_b1 : n0 ≤ b1 := Nat.le_trans Z0 (Nat.le_of_eq g1.symm)
  have sz1 := Nat.le_trans Z0 E1.1
  have V1 : AF Z h1 b1 .byte 3 (fun _ => (.int (0 : Int32))) := AF.new A1 rfl
  refine Ends.go (fun _ => st1 _) ?_
  show Ends p.tables e below G (T1.setTop (mkF m 3 #[iv va, iv vb, iv vc, iv vm, un, un, un, un, un] [(.ref b1)]))
  refine Ends.go (fun _ => XS.dup X1.here hx rfl (hb hby at_3) rfl rfl) ?_
  show Ends p.tables e below G (T1.setTop (mkF m 4 #[iv va, iv vb, iv vc, iv vm, un, un, un, un, un] [(.ref b1), (.ref b1)]))
  refine Ends.go (fun _ => XS.iconst X1.here hx rfl (hb hby at_4)) ?_
  show Ends p.tables e below G (T1.setTop (mkF m 5 #[iv va, iv vb, iv vc, iv vm, un, un, un, un, un] [(.int (0 : Int32)), (.ref b1), (.ref b1)]))
  refine Ends.go (fun _ => XS.iloadN X1.here hx rfl (hb hby at_5) rfl) ?_
  show Ends p.tables e below G (T1.setTop (mkF m 6 #[iv va, iv vb, iv vc, iv vm, un, un, un, un, un] [(.int va), (.int (0 : Int32)), (.ref b1), (.ref b1)]))
  refine Ends.go (fun _ => XS.i2b X1.here hx rfl (hb hby at_6) rfl) ?_
  show Ends p.tables e below G (T1.setTop (mkF m 7 #[iv va, iv vb, iv vc, iv vm, un, un, un, un, un] [(.int (va.toInt8.toInt32)), (.int (0 : Int32)), (.ref b1), (.ref b1)]))
  obtain ⟨T2, h2, X2, e2, W2, V2, st2⟩ := AF.stB V1 X1 hx hZ e1 (j := (0 : Int32)) (i := 0) (by decide) (by decide) (g := (mkF m 7 #[iv va, iv vb, iv vc, iv vm, un, un, un, un, un] [(.int (va.toInt8.toInt32)), (.int (0 : Int32)), (.ref b1), (.ref b1)])) rfl rfl (hb hby at_7)
  have sz2 := Nat.le_trans sz1 (Nat.le_of_eq W2.size.symm)
  have N2 := Fr.snoc X2 N0 g_b1
  refine Ends.go (fun _ => st2 _) ?_
  show Ends p.tables e below G (T2.setTop (mkF m 8 #[iv va, iv vb, iv vc, iv vm, un, un, un, un, un] [(.ref b1)]))
  refine Ends.go (fun _ => XS.dup X2.here hx rfl (hb hby at_8) rfl rfl) ?_
  show Ends p.tables e below G (T2.setTop (mkF m 9 #[iv va, iv vb, iv vc, iv vm, un, un, un, un, un] [(.ref b1), (.ref b1)]))
  refine Ends.go (fun _ => XS.iconst X2.here hx rfl (hb hby at_9)) ?_
  show Ends p.tables e below G (T2.setTop (mkF m 10 #[iv va, iv vb, iv vc, iv vm, un, un, un, un, un] [(.int (1 : Int32)), (.ref b1), (.ref b1)]))
  refine Ends.go (fun _ => XS.iloadN X2.here hx rfl (hb hby at_10) rfl) ?_
  show Ends p.tables e below G (T2.setTop (mkF m 11 #[iv va, iv vb, iv vc, iv vm, un, un, un, un, un] [(.int vb), (.int (1 : Int32)), (.ref b1), (.ref b1)]))
  refine Ends.go (fun _ => XS.i2b X2.here hx rfl (hb hby at_11) rfl) ?_
  show Ends p.tables e below G (T2.setTop (mkF m 12 #[iv va, iv vb, iv vc, iv vm, un, un, un, un, un] [(.int (vb.toInt8.toInt32)), (.int (1 : Int32)), (.ref b1), (.ref b1)]))
  obtain ⟨T3, h3, X3, e3, W3, V3, st3⟩ := AF.stB V2 X2 hx hZ e2 (j := (1 : Int32)) (i := 1) (by decide) (by decide) (g := (mkF m 12 #[iv va, iv vb, iv vc, iv vm, un, un, un, un, un] [(.int (vb.toInt8.toInt32)), (.int (1 : Int32)), (.ref b1), (.ref b1)])) rfl rfl (hb hby at_12)
  have sz3 := Nat.le_trans sz2 (Nat.le_of_eq W3.size.symm)
  have N3 := Fr.snoc X3 N2 g_b1
  refine Ends.go (fun _ => st3 _) ?_
  show Ends p.tables e below G (T3.setTop (mkF m 13 #[iv va, iv vb, iv vc, iv vm, un, un, un, un, un] [(.ref b1)]))
  refine Ends.go (fun _ => XS.dup X3.here hx rfl (hb hby at_13) rfl rfl) ?_
  show Ends p.tables e below G (T3.setTop (mkF m 14 #[iv va, iv vb, iv vc, iv vm, un, un, un, un, un] [(.ref b1), (.ref b1)]))
  refine Ends.go (fun _ => XS.iconst X3.here hx rfl (hb hby at_14)) ?_
  show Ends p.tables e below G (T3.setTop (mkF m 15 #[iv va, iv vb, iv vc, iv vm, un, un, un, un, un] [(.int (2 : Int32)), (.ref b1), (.ref b1)]))
  refine Ends.go (fun _ => XS.iloadN X3.here hx rfl (hb hby at_15) rfl) ?_
  show Ends p.tables e below G (T3.setTop (mkF m 16 #[iv va, iv vb, iv vc, iv vm, un, un, un, un, un] [(.int vc), (.int (2 : Int32)), (.ref b1), (.ref b1)]))
  refine Ends.go (fun _ => XS.i2b X3.here hx rfl (hb hby at_16) rfl) ?_
  show Ends p.tables e below G (T3.setTop (mkF m 17 #[iv va, iv vb, iv vc, iv vm, un, un, un, un, un] [(.int (vc.toInt8.toInt32)), (.int (2 : Int32)), (.ref b1), (.ref b1)]))
  obtain ⟨T4, h4, X4, e4, W4, V4, st4⟩ := AF.stB V3 X3 hx hZ e3 (j := (2 : Int32)) (i := 2) (by decide) (by decide) (g := (mkF m 17 #[iv va, iv vb, iv vc, iv vm, un, un, un, un, un] [(.int (vc.toInt8.toInt32)), (.int (2 : Int32)), (.ref b1), (.ref b1)])) rfl rfl (hb hby at_17)
  have sz4 := Nat.le_trans sz3 (Nat.le_of_eq W4.size.symm)
  have N4 := Fr.snoc X4 N3 g_b1
  refine Ends.go (fun _ => st4 _) ?_
  show Ends p.tables e below G (T4.setTop (mkF m 18 #[iv va, iv vb, iv vc, iv vm, un, un, un, un, un] [(.ref b1)]))
  refine Ends.go (fun _ => XS.astore X4.here hx rfl (hb hby at_18) rfl rfl (l' := #[iv va, iv vb, iv vc, iv vm, rv b1, un, un, un, un]) rfl) ?_
  show Ends p.tables e below G (T4.setTop (mkF m 20 #[iv va, iv vb, iv vc, iv vm, rv b1, un, un, un, un] []))
  obtain ⟨T5, h5, X5, e5, E5, A5, D5, -, st5⟩ := newO X4 hx hZ hown (hw _ (List.mem_of_getElem? (i := 1) rfl)) (hw _ (List.mem_of_getElem? (i := 2) rfl)) (hw _ (List.mem_of_getElem? (i := 3) rfl)) e4 (g := (mkF m 20 #[iv va, iv vb, iv vc, iv vm, rv b1, un, un, un, un] [])) rfl (hb hby at_20) (by decide) (by decide)
  obtain ⟨b5, g5⟩ : ∃ z, z = h4.size := ⟨_, rfl⟩
  rw [← g5] at A5 D5 st5
  have g_b5 : n0 ≤ b5 := Nat.le_trans sz4 (Nat.le_of_eq g5.symm)
  have ne_b1_b5 : b1 ≠ b5 := Nat.ne_of_lt (Nat.lt_of_lt_of_le (AF.lt V4) (Nat.le_of_eq g5.symm))
  have f5_V_b1 := AF.ext V4 E5
  have sz5 := Nat.le_trans sz4 E5.1
  have F5_bitCount : Fld Z h5 b5 "com/example/dispatchbook/dispatchbook/amqp/WireReader" "bitCount" "I" (.int (0 : Int32)) := D5 (Or.inl (hw _ (List.mem_of_getElem? (i := 11) rfl))) (ty := .int) (by decide)
  have F5_bytes : Fld Z h5 b5 "com/example/dispatchbook/dispatchbook/amqp/WireReader" "bytes" "[B" .null := D5 (Or.inr (hw _ (List.mem_of_getElem? (i := 13) rfl))) (ty := (.array .byte)) (by decide)
  have F5_position : Fld Z h5 b5 "com/example/dispatchbook/dispatchbook/amqp/WireReader" "position" "I" (.int (0 : Int32)) := D5 (Or.inl (hw _ (List.mem_of_getElem? (i := 29) rfl))) (ty := .int) (by decide)
  have F5_bits : Fld Z h5 b5 "com/example/dispatchbook/dispatchbook/amqp/WireReader" "bits" "I" (.int (0 : Int32)) := D5 (Or.inl (hw _ (List.mem_of_getElem? (i := 31) rfl))) (ty := .int) (by decide)
  refine Ends.go (fun _ => st5 _) ?_
  show Ends p.tables e below G (T5.setTop (mkF m 23 #[iv va, iv vb, iv vc, iv vm, rv b1, un, un, un, un] [(.ref b5)]))
  refine Ends.go (fun _ => XS.dup X5.here hx rfl (hb hby at_23) rfl rfl) ?_
  show Ends p.tables e below G (T5.setTop (mkF m 24 #[iv va, iv vb, iv vc, iv vm, rv b1, un, un, un, un] [(.ref b5), (.ref b5)]))
  refine Ends.go (fun _ => XS.aload X5.here hx rfl (hb hby at_24) rfl rfl) ?_
  show Ends p.tables e below G (T5.setTop (mkF m 26 #[iv va, iv vb, iv vc, iv vm, rv b1, un, un, un, un] [(.ref b1), (.ref b5), (.ref b5)]))
  have Vc := AF.congr (g := fun k => .int (own_f va vb vc k)) f5_V_b1 (fun j hj => match j, hj with | 0, _ => rfl | 1, _ => rfl | 2, _ => rfl)
  obtain ⟨_, _, ⟨T6, L6, k6, n6⟩, -, X6, ⟨Lc6, hQ6, l6, y6, z6⟩, st6⟩ := X5.specialBack hx (y := (⟨"com/example/dispatchbook/dispatchbook/amqp/WireReader", "<init>", "([B)V"⟩ : MethodName)) rfl hown (mvT hZ (hw _ (List.mem_of_getElem? (i := 4) rfl))) (mvT hZ (hw _ (List.mem_of_getElem? (i := 5) rfl))) (mvT hZ (hw _ (List.mem_of_getElem? (i := 6) rfl))) (by decide) (backOf (W := 1) (rm1 l Z a0 hw [] b5 b1 (own_f va vb vc) h5 n0 sz5 A5 F5_bytes F5_position F5_bits F5_bitCount Vc g_b5) hZ (hw _ (List.mem_of_getElem? (i := 6) rfl)) (hw _ (List.mem_of_getElem? (i := 3) rfl)) (by decide) (by decide)) (g := (mkF m 26 #[iv va, iv vb, iv vc, iv vm, rv b1, un, un, un, un] [(.ref b1), (.ref b5), (.ref b5)])) rfl (by rw [hml]; rfl) (Steps.refl _) (a := b5) (argsL := [(.ref b1)]) (rest := [(.ref b5)]) (lenOf pd_3 rfl) rfl (by show 2 * 0 + _ ≤ _; exact Nat.le_of_eq rfl) (hb hby at_26) (fun _ _ => ⟨rfl, e5, (by decide : ((0 + 1) + 1) + 0 ≤ _), (by decide : ((0 + 3) + 4) + 0 ≤ _)⟩)
  dsimp only [Pt.U, Pt.locs, Pt.cells, Pt.slots] at X6 l6 y6 z6 st6 hQ6
  subst l6 y6 z6
  obtain ⟨rfl, N6q, Kq6, R6⟩ := hQ6
  have N6 := Fr.app N4 N6q
  have sz6 := Nat.le_trans sz5 Kq6.1
  have E6 := R6.1
  refine Ends.go (fun _ => st6.trans) ?_
  show Ends p.tables e below G (T6.setTop (mkF m 29 #[iv va, iv vb, iv vc, iv vm, rv b1, un, un, un, un] [(.ref b5)]))
  refine Ends.go (fun _ => XS.astore X6.here hx rfl (hb hby at_29) rfl rfl (l' := #[iv va, iv vb, iv vc, iv vm, rv b1, rv b5, un, un, un]) rfl) ?_
  show Ends p.tables e below G (T6.setTop (mkF m 31 #[iv va, iv vb, iv vc, iv vm, rv b1, rv b5, un, un, un] []))
  refine Ends.go (fun _ => XS.iloadN X6.here hx rfl (hb hby at_31) rfl) ?_
  show Ends p.tables e below G (T6.setTop (mkF m 32 #[iv va, iv vb, iv vc, iv vm, rv b1, rv b5, un, un, un] [(.int vm)]))
  refine Ends.go (fun _ => XS.iconst X6.here hx rfl (hb hby at_32)) ?_
  show Ends p.tables e below G (T6.setTop (mkF m 33 #[iv va, iv vb, iv vc, iv vm, rv b1, rv b5, un, un, un] [(.int (1 : Int32)), (.int vm)]))
  refine Ends.go (fun _ => XS.iand X6.here hx rfl (hb hby at_33) rfl) ?_
  show Ends p.tables e below G (T6.setTop (mkF m 34 #[iv va, iv vb, iv vc, iv vm, rv b1, rv b5, un, un, un] [(.int (vm &&& (1 : Int32)))]))
  by_cases hm : (vm &&& (1 : Int32)) = (0 : Int32)
  · refine Ends.go (fun _ => XS.ifYes X6.here hx rfl (pc0 := 34) (pc' := 108) rfl (hb hby at_34) rfl ((if0 _ _).trans (teq (hm : (vm &&& (1 : Int32)) = (0 : Int32))).1) (by decide) (by decide)) ?_
    show Ends p.tables e below G (T6.setTop (mkF m 108 #[iv va, iv vb, iv vc, iv vm, rv b1, rv b5, un, un, un] []))
    refine Ends.go (fun _ => XS.aload X6.here hx rfl (hb hby at_108) rfl rfl) ?_
    show Ends p.tables e below G (T6.setTop (mkF m 110 #[iv va, iv vb, iv vc, iv vm, rv b1, rv b5, un, un, un] [(.ref b5)]))
    obtain ⟨cq7, kq7, q7a, q7b, q7c⟩ := isOf hZ rfl E6
    obtain ⟨_, _, ⟨T7, L7, k7, n7⟩, -, X7, ⟨Lc7, hQ7, l7, y7, z7⟩, st7⟩ := X6.virtualBack hx (y := (⟨"com/example/dispatchbook/dispatchbook/amqp/WireReader", "octet", "()I"⟩ : MethodName)) (z := (⟨"com/example/dispatchbook/dispatchbook/amqp/WireReader", "octet", "()I"⟩ : MethodName)) hown (mvT hZ (hw _ (List.mem_of_getElem? (i := 32) rfl))) (mvT hZ (hw _ (List.mem_of_getElem? (i := 20) rfl))) (notFace_of_selects (args := #[]) (mvT hZ (hw _ (List.mem_of_getElem? (i := 22) rfl)))) (mvT hZ (hw _ (List.mem_of_getElem? (i := 22) rfl))) (mvT hZ (hw _ (List.mem_of_getElem? (i := 21) rfl))) (by decide) (backOf (W := 0) (rm4 l Z a0 hw [] b5 b1 (own_f va vb vc) (0 : Int32) (0 : Int32) (8 : Int32) 0 T6.heap n0 sz6 R6 g_b5 (by decide) (by decide)) hZ (hw _ (List.mem_of_getElem? (i := 23) rfl)) (hw _ (List.mem_of_getElem? (i := 3) rfl)) (by decide) (by decide)) q7a q7c (g := (mkF m 110 #[iv va, iv vb, iv vc, iv vm, rv b1, rv b5, un, un, un] [(.ref b5)])) rfl (by rw [hml]; rfl) (Steps.refl _) (argsL := []) (rest := []) (lenOf pd_2 rfl) rfl (by show 2 * 0 + _ ≤ _; exact Nat.le_of_eq rfl) (hb hby at_110) (fun _ _ => ⟨rfl, rfl, (by decide : (((0 + 1) + 1) + 0) + 0 ≤ _), (by decide : (((0 + 3) + 4) + 0) + 0 ≤ _)⟩)
    dsimp only [Pt.U, Pt.locs, Pt.cells, Pt.slots] at X7 l7 y7 z7 st7 hQ7
    subst l7 y7 z7
    obtain ⟨rfl, N7q, Kq7, R7⟩ := hQ7
    have N7 := Fr.app N6 N7q
    have sz7 := Nat.le_trans sz6 Kq7.1
    have RR7 : RD Z T7.heap b5 b1 (own_f va vb vc) (1 : Int32) (0 : Int32) (8 : Int32) := R7
    have E7 := R7.1
    refine Ends.go (fun _ => st7.trans) ?_
    show Ends p.tables e below G (T7.setTop (mkF m 113 #[iv va, iv vb, iv vc, iv vm, rv b1, rv b5, un, un, un] [(.int (own_f va vb vc 0 &&& 255))]))
    refine Ends.go (fun _ => XS.istore X7.here hx rfl (hb hby at_113) rfl (l' := #[iv va, iv vb, iv vc, iv vm, rv b1, rv b5, iv (own_f va vb vc 0 &&& 255), un, un]) rfl) ?_
    show Ends p.tables e below G (T7.setTop (mkF m 115 #[iv va, iv vb, iv vc, iv vm, rv b1, rv b5, iv (own_f va vb vc 0 &&& 255), un, un] []))
    refine Ends.go (fun _ => XS.aload X7.here hx rfl (hb hby at_115) rfl rfl) ?_
    show Ends p.tables e below G (T7.setTop (mkF m 117 #[iv va, iv vb, iv vc, iv vm, rv b1, rv b5, iv (own_f va vb vc 0 &&& 255), un, un] [(.ref b5)]))
    obtain ⟨cq8, kq8, q8a, q8b, q8c⟩ := isOf hZ rfl E7
    obtain ⟨_, _, ⟨T8, L8, k8, n8⟩, -, X8, ⟨Lc8, hQ8, l8, y8, z8⟩, st8⟩ := X7.virtualBack hx (y := (⟨"com/example/dispatchbook/dispatchbook/amqp/WireReader", "octet", "()I"⟩ : MethodName)) (z := (⟨"com/example/dispatchbook/dispatchbook/amqp/WireReader", "octet", "()I"⟩ : MethodName)) hown (mvT hZ (hw _ (List.mem_of_getElem? (i := 32) rfl))) (mvT hZ (hw _ (List.mem_of_getElem? (i := 20) rfl))) (notFace_of_selects (args := #[]) (mvT hZ (hw _ (List.mem_of_getElem? (i := 22) rfl)))) (mvT hZ (hw _ (List.mem_of_getElem? (i := 22) rfl))) (mvT hZ (hw _ (List.mem_of_getElem? (i := 21) rfl))) (by decide) (backOf (W := 0) (rm4 l Z a0 hw [] b5 b1 (own_f va vb vc) (1 : Int32) (0 : Int32) (8 : Int32) 1 T7.heap n0 sz7 RR7 g_b5 (by decide) (by decide)) hZ (hw _ (List.mem_of_getElem? (i := 23) rfl)) (hw _ (List.mem_of_getElem? (i := 3) rfl)) (by decide) (by decide)) q8a q8c (g := (mkF m 117 #[iv va, iv vb, iv vc, iv vm, rv b1, rv b5, iv (own_f va vb vc 0 &&& 255), un, un] [(.ref b5)])) rfl (by rw [hml]; rfl) (Steps.refl _) (argsL := []) (rest := []) (lenOf pd_2 rfl) rfl (by show 2 * 0 + _ ≤ _; exact Nat.le_of_eq rfl) (hb hby at_117) (fun _ _ => ⟨rfl, rfl, (by decide : ((((0 + 1) + 1) + 0) + 0) + 0 ≤ _), (by decide : ((((0 + 3) + 4) + 0) + 0) + 0 ≤ _)⟩)
    dsimp only [Pt.U, Pt.locs, Pt.cells, Pt.slots] at X8 l8 y8 z8 st8 hQ8
    subst l8 y8 z8
    obtain ⟨rfl, N8q, Kq8, R8⟩ := hQ8
    have N8 := Fr.app N7 N8q
    have sz8 := Nat.le_trans sz7 Kq8.1
    have RR8 : RD Z T8.heap b5 b1 (own_f va vb vc) (2 : Int32) (0 : Int32) (8 : Int32) := R8
    have E8 := R8.1
    refine Ends.go (fun _ => st8.trans) ?_
    show Ends p.tables e below G (T8.setTop (mkF m 120 #[iv va, iv vb, iv vc, iv vm, rv b1, rv b5, iv (own_f va vb vc 0 &&& 255), un, un] [(.int (own_f va vb vc 1 &&& 255))]))
    refine Ends.go (fun _ => XS.istore X8.here hx rfl (hb hby at_120) rfl (l' := #[iv va, iv vb, iv vc, iv vm, rv b1, rv b5, iv (own_f va vb vc 0 &&& 255), iv (own_f va vb vc 1 &&& 255), un]) rfl) ?_
    show Ends p.tables e below G (T8.setTop (mkF m 122 #[iv va, iv vb, iv vc, iv vm, rv b1, rv b5, iv (own_f va vb vc 0 &&& 255), iv (own_f va vb vc 1 &&& 255), un] []))
    refine Ends.go (fun _ => XS.aload X8.here hx rfl (hb hby at_122) rfl rfl) ?_
    show Ends p.tables e below G (T8.setTop (mkF m 124 #[iv va, iv vb, iv vc, iv vm, rv b1, rv b5, iv (own_f va vb vc 0 &&& 255), iv (own_f va vb vc 1 &&& 255), un] [(.ref b5)]))
    obtain ⟨cq9, kq9, q9a, q9b, q9c⟩ := isOf hZ rfl E8
    obtain ⟨_, _, ⟨T9, L9, k9, n9⟩, -, X9, ⟨Lc9, hQ9, l9, y9, z9⟩, st9⟩ := X8.virtualBack hx (y := (⟨"com/example/dispatchbook/dispatchbook/amqp/WireReader", "octet", "()I"⟩ : MethodName)) (z := (⟨"com/example/dispatchbook/dispatchbook/amqp/WireReader", "octet", "()I"⟩ : MethodName)) hown (mvT hZ (hw _ (List.mem_of_getElem? (i := 32) rfl))) (mvT hZ (hw _ (List.mem_of_getElem? (i := 20) rfl))) (notFace_of_selects (args := #[]) (mvT hZ (hw _ (List.mem_of_getElem? (i := 22) rfl)))) (mvT hZ (hw _ (List.mem_of_getElem? (i := 22) rfl))) (mvT hZ (hw _ (List.mem_of_getElem? (i := 21) rfl))) (by decide) (backOf (W := 0) (rm4 l Z a0 hw [] b5 b1 (own_f va vb vc) (2 : Int32) (0 : Int32) (8 : Int32) 2 T8.heap n0 sz8 RR8 g_b5 (by decide) (by decide)) hZ (hw _ (List.mem_of_getElem? (i := 23) rfl)) (hw _ (List.mem_of_getElem? (i := 3) rfl)) (by decide) (by decide)) q9a q9c (g := (mkF m 124 #[iv va, iv vb, iv vc, iv vm, rv b1, rv b5, iv (own_f va vb vc 0 &&& 255), iv (own_f va vb vc 1 &&& 255), un] [(.ref b5)])) rfl (by rw [hml]; rfl) (Steps.refl _) (argsL := []) (rest := []) (lenOf pd_2 rfl) rfl (by show 2 * 0 + _ ≤ _; exact Nat.le_of_eq rfl) (hb hby at_124) (fun _ _ => ⟨rfl, rfl, (by decide : (((((0 + 1) + 1) + 0) + 0) + 0) + 0 ≤ _), (by decide : (((((0 + 3) + 4) + 0) + 0) + 0) + 0 ≤ _)⟩)
    dsimp only [Pt.U, Pt.locs, Pt.cells, Pt.slots] at X9 l9 y9 z9 st9 hQ9
    subst l9 y9 z9
    obtain ⟨rfl, N9q, Kq9, R9⟩ := hQ9
    have N9 := Fr.app N8 N9q
    have sz9 := Nat.le_trans sz8 Kq9.1
    have RR9 : RD Z T9.heap b5 b1 (own_f va vb vc) (3 : Int32) (0 : Int32) (8 : Int32) := R9
    have E9 := R9.1
    refine Ends.go (fun _ => st9.trans) ?_
    show Ends p.tables e below G (T9.setTop (mkF m 127 #[iv va, iv vb, iv vc, iv vm, rv b1, rv b5, iv (own_f va vb vc 0 &&& 255), iv (own_f va vb vc 1 &&& 255), un] [(.int (own_f va vb vc 2 &&& 255))]))
    refine Ends.go (fun _ => XS.istore X9.here hx rfl (hb hby at_127) rfl (l' := #[iv va, iv vb, iv vc, iv vm, rv b1, rv b5, iv (own_f va vb vc 0 &&& 255), iv (own_f va vb vc 1 &&& 255), iv (own_f va vb vc 2 &&& 255)]) rfl) ?_
    show Ends p.tables e below G (T9.setTop (mkF m 129 #[iv va, iv vb, iv vc, iv vm, rv b1, rv b5, iv (own_f va vb vc 0 &&& 255), iv (own_f va vb vc 1 &&& 255), iv (own_f va vb vc 2 &&& 255)] []))
    refine Ends.go (fun _ => XS.iload X9.here hx rfl (hb hby at_129) rfl) ?_
    show Ends p.tables e below G (T9.setTop (mkF m 131 #[iv va, iv vb, iv vc, iv vm, rv b1, rv b5, iv (own_f va vb vc 0 &&& 255), iv (own_f va vb vc 1 &&& 255), iv (own_f va vb vc 2 &&& 255)] [(.int (own_f va vb vc 0 &&& 255))]))
    refine Ends.go (fun _ => XS.iloadN X9.here hx rfl (hb hby at_131) rfl) ?_
    show Ends p.tables e below G (T9.setTop (mkF m 132 #[iv va, iv vb, iv vc, iv vm, rv b1, rv b5, iv (own_f va vb vc 0 &&& 255), iv (own_f va vb vc 1 &&& 255), iv (own_f va vb vc 2 &&& 255)] [(.int va), (.int (own_f va vb vc 0 &&& 255))]))
    refine Ends.go (fun _ => XS.sipush X9.here hx rfl (hb hby at_132)) ?_
    show Ends p.tables e below G (T9.setTop (mkF m 135 #[iv va, iv vb, iv vc, iv vm, rv b1, rv b5, iv (own_f va vb vc 0 &&& 255), iv (own_f va vb vc 1 &&& 255), iv (own_f va vb vc 2 &&& 255)] [(.int (255 : Int32)), (.int va), (.int (own_f va vb vc 0 &&& 255))]))
    refine Ends.go (fun _ => XS.iand X9.here hx rfl (hb hby at_135) rfl) ?_
    show Ends p.tables e below G (T9.setTop (mkF m 136 #[iv va, iv vb, iv vc, iv vm, rv b1, rv b5, iv (own_f va vb vc 0 &&& 255), iv (own_f va vb vc 1 &&& 255), iv (own_f va vb vc 2 &&& 255)] [(.int (va &&& (255 : Int32))), (.int (own_f va vb vc 0 &&& 255))]))
    refine Ends.go (fun _ => XS.icmpNo X9.here hx rfl (hb hby at_136) rfl (teq (own_lo0 va vb vc : (own_f va vb vc 0 &&& 255) = (va &&& (255 : Int32)))).2) ?_
    show Ends p.tables e below G (T9.setTop (mkF m 139 #[iv va, iv vb, iv vc, iv vm, rv b1, rv b5, iv (own_f va vb vc 0 &&& 255), iv (own_f va vb vc 1 &&& 255), iv (own_f va vb vc 2 &&& 255)] []))
    refine Ends.go (fun _ => XS.iload X9.here hx rfl (hb hby at_139) rfl) ?_
    show Ends p.tables e below G (T9.setTop (mkF m 141 #[iv va, iv vb, iv vc, iv vm, rv b1, rv b5, iv (own_f va vb vc 0 &&& 255), iv (own_f va vb vc 1 &&& 255), iv (own_f va vb vc 2 &&& 255)] [(.int (own_f va vb vc 1 &&& 255))]))
    refine Ends.go (fun _ => XS.iloadN X9.here hx rfl (hb hby at_141) rfl) ?_
    show Ends p.tables e below G (T9.setTop (mkF m 142 #[iv va, iv vb, iv vc, iv vm, rv b1, rv b5, iv (own_f va vb vc 0 &&& 255), iv (own_f va vb vc 1 &&& 255), iv (own_f va vb vc 2 &&& 255)] [(.int vb), (.int (own_f va vb vc 1 &&& 255))]))
    refine Ends.go (fun _ => XS.sipush X9.here hx rfl (hb hby at_142)) ?_
    show Ends p.tables e below G (T9.setTop (mkF m 145 #[iv va, iv vb, iv vc, iv vm, rv b1, rv b5, iv (own_f va vb vc 0 &&& 255), iv (own_f va vb vc 1 &&& 255), iv (own_f va vb vc 2 &&& 255)] [(.int (255 : Int32)), (.int vb), (.int (own_f va vb vc 1 &&& 255))]))
    refine Ends.go (fun _ => XS.iand X9.here hx rfl (hb hby at_145) rfl) ?_
    show Ends p.tables e below G (T9.setTop (mkF m 146 #[iv va, iv vb, iv vc, iv vm, rv b1, rv b5, iv (own_f va vb vc 0 &&& 255), iv (own_f va vb vc 1 &&& 255), iv (own_f va vb vc 2 &&& 255)] [(.int (vb &&& (255 : Int32))), (.int (own_f va vb vc 1 &&& 255))]))
    refine Ends.go (fun _ => XS.icmpNo X9.here hx rfl (hb hby at_146) rfl (teq (own_lo1 va vb vc : (own_f va vb vc 1 &&& 255) = (vb &&& (255 : Int32)))).2) ?_
    show Ends p.tables e below G (T9.setTop (mkF m 149 #[iv va, iv vb, iv vc, iv vm, rv b1, rv b5, iv (own_f va vb vc 0 &&& 255), iv (own_f va vb vc 1 &&& 255), iv (own_f va vb vc 2 &&& 255)] []))
    refine Ends.go (fun _ => XS.iload X9.here hx rfl (hb hby at_149) rfl) ?_
    show Ends p.tables e below G (T9.setTop (mkF m 151 #[iv va, iv vb, iv vc, iv vm, rv b1, rv b5, iv (own_f va vb vc 0 &&& 255), iv (own_f va vb vc 1 &&& 255), iv (own_f va vb vc 2 &&& 255)] [(.int (own_f va vb vc 2 &&& 255))]))
    refine Ends.go (fun _ => XS.iloadN X9.here hx rfl (hb hby at_151) rfl) ?_
    show Ends p.tables e below G (T9.setTop (mkF m 152 #[iv va, iv vb, iv vc, iv vm, rv b1, rv b5, iv (own_f va vb vc 0 &&& 255), iv (own_f va vb vc 1 &&& 255), iv (own_f va vb vc 2 &&& 255)] [(.int vc), (.int (own_f va vb vc 2 &&& 255))]))
    refine Ends.go (fun _ => XS.sipush X9.here hx rfl (hb hby at_152)) ?_
    show Ends p.tables e below G (T9.setTop (mkF m 155 #[iv va, iv vb, iv vc, iv vm, rv b1, rv b5, iv (own_f va vb vc 0 &&& 255), iv (own_f va vb vc 1 &&& 255), iv (own_f va vb vc 2 &&& 255)] [(.int (255 : Int32)), (.int vc), (.int (own_f va vb vc 2 &&& 255))]))
    refine Ends.go (fun _ => XS.iand X9.here hx rfl (hb hby at_155) rfl) ?_
    show Ends p.tables e below G (T9.setTop (mkF m 156 #[iv va, iv vb, iv vc, iv vm, rv b1, rv b5, iv (own_f va vb vc 0 &&& 255), iv (own_f va vb vc 1 &&& 255), iv (own_f va vb vc 2 &&& 255)] [(.int (vc &&& (255 : Int32))), (.int (own_f va vb vc 2 &&& 255))]))
    refine Ends.go (fun _ => XS.icmpNo X9.here hx rfl (hb hby at_156) rfl (teq (own_lo2 va vb vc : (own_f va vb vc 2 &&& 255) = (vc &&& (255 : Int32)))).2) ?_
    show Ends p.tables e below G (T9.setTop (mkF m 159 #[iv va, iv vb, iv vc, iv vm, rv b1, rv b5, iv (own_f va vb vc 0 &&& 255), iv (own_f va vb vc 1 &&& 255), iv (own_f va vb vc 2 &&& 255)] []))
    refine Ends.go (fun _ => XS.iconst X9.here hx rfl (hb hby at_159)) ?_
    show Ends p.tables e below G (T9.setTop (mkF m 160 #[iv va, iv vb, iv vc, iv vm, rv b1, rv b5, iv (own_f va vb vc 0 &&& 255), iv (own_f va vb vc 1 &&& 255), iv (own_f va vb vc 2 &&& 255)] [(.int (1 : Int32))]))
    refine Ends.go (fun _ => XS.goto X9.here hx rfl (pc0 := 160) (pc' := 164) rfl (hb hby at_160) (by decide) (by decide)) ?_
    show Ends p.tables e below G (T9.setTop (mkF m 164 #[iv va, iv vb, iv vc, iv vm, rv b1, rv b5, iv (own_f va vb vc 0 &&& 255), iv (own_f va vb vc 1 &&& 255), iv (own_f va vb vc 2 &&& 255)] [(.int (1 : Int32))]))
    refine own_finS (t := .boolean) X9 hx Bd.returns (by simp) Bd.notSynchronized (hb hby at_164) (Q := (Q0 Z va vb vc vm h0 n0)) hG (by decide) (by decide) ?_
    show (Q0 Z va vb vc vm h0 n0) _ T9.heap _
    exact ⟨rfl, N9⟩
  · refine Ends.go (fun _ => XS.ifNo X6.here hx rfl (hb hby at_34) rfl ((if0 _ _).trans (feq (hm : ¬ ((vm &&& (1 : Int32)) = (0 : Int32)))).1)) ?_
    show Ends p.tables e below G (T6.setTop (mkF m 37 #[iv va, iv vb, iv vc, iv vm, rv b1, rv b5, un, un, un] []))
    refine Ends.go (fun _ => XS.aload X6.here hx rfl (hb hby at_37) rfl rfl) ?_
    show Ends p.tables e below G (T6.setTop (mkF m 39 #[iv va, iv vb, iv vc, iv vm, rv b1, rv b5, un, un, un] [(.ref b5)]))
    obtain ⟨cq10, kq10, q10a, q10b, q10c⟩ := isOf hZ rfl E6
    obtain ⟨_, _, ⟨T10, L10, k10, n10⟩, -, X10, ⟨Lc10, hQ10, l10, y10, z10⟩, st10⟩ := X6.virtualBack hx (y := (⟨"com/example/dispatchbook/dispatchbook/amqp/WireReader", "bit", "()Z"⟩ : MethodName)) (z := (⟨"com/example/dispatchbook/dispatchbook/amqp/WireReader", "bit", "()Z"⟩ : MethodName)) hown (mvT hZ (hw _ (List.mem_of_getElem? (i := 14) rfl))) (mvT hZ (hw _ (List.mem_of_getElem? (i := 15) rfl))) (notFace_of_selects (args := #[]) (mvT hZ (hw _ (List.mem_of_getElem? (i := 17) rfl)))) (mvT hZ (hw _ (List.mem_of_getElem? (i := 17) rfl))) (mvT hZ (hw _ (List.mem_of_getElem? (i := 16) rfl))) (by decide) (backOf (W := 0) (rm3a l Z a0 hw [] b5 b1 (own_f va vb vc) (0 : Int32) (0 : Int32) 0 T6.heap n0 sz6 R6 g_b5 (by decide) (by decide)) hZ (hw _ (List.mem_of_getElem? (i := 18) rfl)) (hw _ (List.mem_of_getElem? (i := 3) rfl)) (by decide) (by decide)) q10a q10c (g := (mkF m 39 #[iv va, iv vb, iv vc, iv vm, rv b1, rv b5, un, un, un] [(.ref b5)])) rfl (by rw [hml]; rfl) (Steps.refl _) (argsL := []) (rest := []) (lenOf pd_4 rfl) rfl (by show 2 * 0 + _ ≤ _; exact Nat.le_of_eq rfl) (hb hby at_39) (fun _ _ => ⟨rfl, rfl, (by decide : (((0 + 1) + 1) + 0) + 0 ≤ _), (by decide : (((0 + 3) + 4) + 0) + 0 ≤ _)⟩)
    dsimp only [Pt.U, Pt.locs, Pt.cells, Pt.slots] at X10 l10 y10 z10 st10 hQ10
    subst l10 y10 z10
    obtain ⟨rfl, N10q, Kq10, R10⟩ := hQ10
    have N10 := Fr.app N6 N10q
    have sz10 := Nat.le_trans sz6 Kq10.1
    have RR10 : RD Z T10.heap b5 b1 (own_f va vb vc) (1 : Int32) (own_f va vb vc 0 &&& 255) (1 : Int32) := R10
    have E10 := R10.1
    refine Ends.go (fun _ => st10.trans) ?_
    show Ends p.tables e below G (T10.setTop (mkF m 42 #[iv va, iv vb, iv vc, iv vm, rv b1, rv b5, un, un, un] [(.int (bitAt (own_f va vb vc 0 &&& 255) 0))]))
    refine Ends.go (fun _ => XS.istore X10.here hx rfl (hb hby at_42) rfl (l' := #[iv va, iv vb, iv vc, iv vm, rv b1, rv b5, iv (bitAt (own_f va vb vc 0 &&& 255) 0), un, un]) rfl) ?_
    show Ends p.tables e below G (T10.setTop (mkF m 44 #[iv va, iv vb, iv vc, iv vm, rv b1, rv b5, iv (bitAt (own_f va vb vc 0 &&& 255) 0), un, un] []))
    refine Ends.go (fun _ => XS.aload X10.here hx rfl (hb hby at_44) rfl rfl) ?_
    show Ends p.tables e below G (T10.setTop (mkF m 46 #[iv va, iv vb, iv vc, iv vm, rv b1, rv b5, iv (bitAt (own_f va vb vc 0 &&& 255) 0), un, un] [(.ref b5)]))
    obtain ⟨cq11, kq11, q11a, q11b, q11c⟩ := isOf hZ rfl E10
    obtain ⟨_, _, ⟨T11, L11, k11, n11⟩, -, X11, ⟨Lc11, hQ11, l11, y11, z11⟩, st11⟩ := X10.virtualBack hx (y := (⟨"com/example/dispatchbook/dispatchbook/amqp/WireReader", "octet", "()I"⟩ : MethodName)) (z := (⟨"com/example/dispatchbook/dispatchbook/amqp/WireReader", "octet", "()I"⟩ : MethodName)) hown (mvT hZ (hw _ (List.mem_of_getElem? (i := 32) rfl))) (mvT hZ (hw _ (List.mem_of_getElem? (i := 20) rfl))) (notFace_of_selects (args := #[]) (mvT hZ (hw _ (List.mem_of_getElem? (i := 22) rfl)))) (mvT hZ (hw _ (List.mem_of_getElem? (i := 22) rfl))) (mvT hZ (hw _ (List.mem_of_getElem? (i := 21) rfl))) (by decide) (backOf (W := 0) (rm4 l Z a0 hw [] b5 b1 (own_f va vb vc) (1 : Int32) (own_f va vb vc 0 &&& 255) (1 : Int32) 1 T10.heap n0 sz10 RR10 g_b5 (by decide) (by decide)) hZ (hw _ (List.mem_of_getElem? (i := 23) rfl)) (hw _ (List.mem_of_getElem? (i := 3) rfl)) (by decide) (by decide)) q11a q11c (g := (mkF m 46 #[iv va, iv vb, iv vc, iv vm, rv b1, rv b5, iv (bitAt (own_f va vb vc 0 &&& 255) 0), un, un] [(.ref b5)])) rfl (by rw [hml]; rfl) (Steps.refl _) (argsL := []) (rest := []) (lenOf pd_2 rfl) rfl (by show 2 * 0 + _ ≤ _; exact Nat.le_of_eq rfl) (hb hby at_46) (fun _ _ => ⟨rfl, rfl, (by decide : ((((0 + 1) + 1) + 0) + 0) + 0 ≤ _), (by decide : ((((0 + 3) + 4) + 0) + 0) + 0 ≤ _)⟩)
    dsimp only [Pt.U, Pt.locs, Pt.cells, Pt.slots] at X11 l11 y11 z11 st11 hQ11
    subst l11 y11 z11
    obtain ⟨rfl, N11q, Kq11, R11⟩ := hQ11
    have N11 := Fr.app N10 N11q
    have sz11 := Nat.le_trans sz10 Kq11.1
    have RR11 : RD Z T11.heap b5 b1 (own_f va vb vc) (2 : Int32) (own_f va vb vc 0 &&& 255) (8 : Int32) := R11
    have E11 := R11.1
    refine Ends.go (fun _ => st11.trans) ?_
    show Ends p.tables e below G (T11.setTop (mkF m 49 #[iv va, iv vb, iv vc, iv vm, rv b1, rv b5, iv (bitAt (own_f va vb vc 0 &&& 255) 0), un, un] [(.int (own_f va vb vc 1 &&& 255))]))
    refine Ends.go (fun _ => XS.istore X11.here hx rfl (hb hby at_49) rfl (l' := #[iv va, iv vb, iv vc, iv vm, rv b1, rv b5, iv (bitAt (own_f va vb vc 0 &&& 255) 0), iv (own_f va vb vc 1 &&& 255), un]) rfl) ?_
    show Ends p.tables e below G (T11.setTop (mkF m 51 #[iv va, iv vb, iv vc, iv vm, rv b1, rv b5, iv (bitAt (own_f va vb vc 0 &&& 255) 0), iv (own_f va vb vc 1 &&& 255), un] []))
    refine Ends.go (fun _ => XS.aload X11.here hx rfl (hb hby at_51) rfl rfl) ?_
    show Ends p.tables e below G (T11.setTop (mkF m 53 #[iv va, iv vb, iv vc, iv vm, rv b1, rv b5, iv (bitAt (own_f va vb vc 0 &&& 255) 0), iv (own_f va vb vc 1 &&& 255), un] [(.ref b5)]))
    obtain ⟨cq12, kq12, q12a, q12b, q12c⟩ := isOf hZ rfl E11
    obtain ⟨_, _, ⟨T12, L12, k12, n12⟩, -, X12, ⟨Lc12, hQ12, l12, y12, z12⟩, st12⟩ := X11.virtualBack hx (y := (⟨"com/example/dispatchbook/dispatchbook/amqp/WireReader", "bit", "()Z"⟩ : MethodName)) (z := (⟨"com/example/dispatchbook/dispatchbook/amqp/WireReader", "bit", "()Z"⟩ : MethodName)) hown (mvT hZ (hw _ (List.mem_of_getElem? (i := 14) rfl))) (mvT hZ (hw _ (List.mem_of_getElem? (i := 15) rfl))) (notFace_of_selects (args := #[]) (mvT hZ (hw _ (List.mem_of_getElem? (i := 17) rfl)))) (mvT hZ (hw _ (List.mem_of_getElem? (i := 17) rfl))) (mvT hZ (hw _ (List.mem_of_getElem? (i := 16) rfl))) (by decide) (backOf (W := 0) (rm3a l Z a0 hw [] b5 b1 (own_f va vb vc) (2 : Int32) (own_f va vb vc 0 &&& 255) 2 T11.heap n0 sz11 RR11 g_b5 (by decide) (by decide)) hZ (hw _ (List.mem_of_getElem? (i := 18) rfl)) (hw _ (List.mem_of_getElem? (i := 3) rfl)) (by decide) (by decide)) q12a q12c (g := (mkF m 53 #[iv va, iv vb, iv vc, iv vm, rv b1, rv b5, iv (bitAt (own_f va vb vc 0 &&& 255) 0), iv (own_f va vb vc 1 &&& 255), un] [(.ref b5)])) rfl (by rw [hml]; rfl) (Steps.refl _) (argsL := []) (rest := []) (lenOf pd_4 rfl) rfl (by show 2 * 0 + _ ≤ _; exact Nat.le_of_eq rfl) (hb hby at_53) (fun _ _ => ⟨rfl, rfl, (by decide : (((((0 + 1) + 1) + 0) + 0) + 0) + 0 ≤ _), (by decide : (((((0 + 3) + 4) + 0) + 0) + 0) + 0 ≤ _)⟩)
    dsimp only [Pt.U, Pt.locs, Pt.cells, Pt.slots] at X12 l12 y12 z12 st12 hQ12
    subst l12 y12 z12
    obtain ⟨rfl, N12q, Kq12, R12⟩ := hQ12
    have N12 := Fr.app N11 N12q
    have sz12 := Nat.le_trans sz11 Kq12.1
    have RR12 : RD Z T12.heap b5 b1 (own_f va vb vc) (3 : Int32) (own_f va vb vc 2 &&& 255) (1 : Int32) := R12
    have E12 := R12.1
    refine Ends.go (fun _ => st12.trans) ?_
    show Ends p.tables e below G (T12.setTop (mkF m 56 #[iv va, iv vb, iv vc, iv vm, rv b1, rv b5, iv (bitAt (own_f va vb vc 0 &&& 255) 0), iv (own_f va vb vc 1 &&& 255), un] [(.int (bitAt (own_f va vb vc 2 &&& 255) 0))]))
    refine Ends.go (fun _ => XS.istore X12.here hx rfl (hb hby at_56) rfl (l' := #[iv va, iv vb, iv vc, iv vm, rv b1, rv b5, iv (bitAt (own_f va vb vc 0 &&& 255) 0), iv (own_f va vb vc 1 &&& 255), iv (bitAt (own_f va vb vc 2 &&& 255) 0)]) rfl) ?_
    show Ends p.tables e below G (T12.setTop (mkF m 58 #[iv va, iv vb, iv vc, iv vm, rv b1, rv b5, iv (bitAt (own_f va vb vc 0 &&& 255) 0), iv (own_f va vb vc 1 &&& 255), iv (bitAt (own_f va vb vc 2 &&& 255) 0)] []))
    refine Ends.go (fun _ => XS.iload X12.here hx rfl (hb hby at_58) rfl) ?_
    show Ends p.tables e below G (T12.setTop (mkF m 60 #[iv va, iv vb, iv vc, iv vm, rv b1, rv b5, iv (bitAt (own_f va vb vc 0 &&& 255) 0), iv (own_f va vb vc 1 &&& 255), iv (bitAt (own_f va vb vc 2 &&& 255) 0)] [(.int (bitAt (own_f va vb vc 0 &&& 255) 0))]))
    refine Ends.go (fun _ => XS.iloadN X12.here hx rfl (hb hby at_60) rfl) ?_
    show Ends p.tables e below G (T12.setTop (mkF m 61 #[iv va, iv vb, iv vc, iv vm, rv b1, rv b5, iv (bitAt (own_f va vb vc 0 &&& 255) 0), iv (own_f va vb vc 1 &&& 255), iv (bitAt (own_f va vb vc 2 &&& 255) 0)] [(.int va), (.int (bitAt (own_f va vb vc 0 &&& 255) 0))]))
    refine Ends.go (fun _ => XS.iconst X12.here hx rfl (hb hby at_61)) ?_
    show Ends p.tables e below G (T12.setTop (mkF m 62 #[iv va, iv vb, iv vc, iv vm, rv b1, rv b5, iv (bitAt (own_f va vb vc 0 &&& 255) 0), iv (own_f va vb vc 1 &&& 255), iv (bitAt (own_f va vb vc 2 &&& 255) 0)] [(.int (1 : Int32)), (.int va), (.int (bitAt (own_f va vb vc 0 &&& 255) 0))]))
    refine Ends.go (fun _ => XS.iand X12.here hx rfl (hb hby at_62) rfl) ?_
    show Ends p.tables e below G (T12.setTop (mkF m 63 #[iv va, iv vb, iv vc, iv vm, rv b1, rv b5, iv (bitAt (own_f va vb vc 0 &&& 255) 0), iv (own_f va vb vc 1 &&& 255), iv (bitAt (own_f va vb vc 2 &&& 255) 0)] [(.int (va &&& (1 : Int32))), (.int (bitAt (own_f va vb vc 0 &&& 255) 0))]))
    refine Ends.go (fun _ => XS.iconst X12.here hx rfl (hb hby at_63)) ?_
    show Ends p.tables e below G (T12.setTop (mkF m 64 #[iv va, iv vb, iv vc, iv vm, rv b1, rv b5, iv (bitAt (own_f va vb vc 0 &&& 255) 0), iv (own_f va vb vc 1 &&& 255), iv (bitAt (own_f va vb vc 2 &&& 255) 0)] [(.int (1 : Int32)), (.int (va &&& (1 : Int32))), (.int (bitAt (own_f va vb vc 0 &&& 255) 0))]))
    by_cases ha : ((va &&& (1 : Int32)) = (1 : Int32))
    · refine Ends.go (fun _ => XS.icmpNo X12.here hx rfl (hb hby at_64) rfl (teq (ha : (va &&& (1 : Int32)) = (1 : Int32))).2) ?_
      show Ends p.tables e below G (T12.setTop (mkF m 67 #[iv va, iv vb, iv vc, iv vm, rv b1, rv b5, iv (bitAt (own_f va vb vc 0 &&& 255) 0), iv (own_f va vb vc 1 &&& 255), iv (bitAt (own_f va vb vc 2 &&& 255) 0)] [(.int (bitAt (own_f va vb vc 0 &&& 255) 0))]))
      refine Ends.go (fun _ => XS.iconst X12.here hx rfl (hb hby at_67)) ?_
      show Ends p.tables e below G (T12.setTop (mkF m 68 #[iv va, iv vb, iv vc, iv vm, rv b1, rv b5, iv (bitAt (own_f va vb vc 0 &&& 255) 0), iv (own_f va vb vc 1 &&& 255), iv (bitAt (own_f va vb vc 2 &&& 255) 0)] [(.int (1 : Int32)), (.int (bitAt (own_f va vb vc 0 &&& 255) 0))]))
      refine Ends.go (fun _ => XS.goto X12.here hx rfl (pc0 := 68) (pc' := 72) rfl (hb hby at_68) (by decide) (by decide)) ?_
      show Ends p.tables e below G (T12.setTop (mkF m 72 #[iv va, iv vb, iv vc, iv vm, rv b1, rv b5, iv (bitAt (own_f va vb vc 0 &&& 255) 0), iv (own_f va vb vc 1 &&& 255), iv (bitAt (own_f va vb vc 2 &&& 255) 0)] [(.int (1 : Int32)), (.int (bitAt (own_f va vb vc 0 &&& 255) 0))]))
      refine Ends.go (fun _ => XS.icmpNo X12.here hx rfl (hb hby at_72) rfl (teq ((show bitAt (own_f va vb vc 0 &&& 255) 0 = _ from by rw [own_lo0, own_b0]; exact ha) : (bitAt (own_f va vb vc 0 &&& 255) 0) = (1 : Int32))).2) ?_
      show Ends p.tables e below G (T12.setTop (mkF m 75 #[iv va, iv vb, iv vc, iv vm, rv b1, rv b5, iv (bitAt (own_f va vb vc 0 &&& 255) 0), iv (own_f va vb vc 1 &&& 255), iv (bitAt (own_f va vb vc 2 &&& 255) 0)] []))
      refine Ends.go (fun _ => XS.iload X12.here hx rfl (hb hby at_75) rfl) ?_
      show Ends p.tables e below G (T12.setTop (mkF m 77 #[iv va, iv vb, iv vc, iv vm, rv b1, rv b5, iv (bitAt (own_f va vb vc 0 &&& 255) 0), iv (own_f va vb vc 1 &&& 255), iv (bitAt (own_f va vb vc 2 &&& 255) 0)] [(.int (own_f va vb vc 1 &&& 255))]))
      refine Ends.go (fun _ => XS.iloadN X12.here hx rfl (hb hby at_77) rfl) ?_
      show Ends p.tables e below G (T12.setTop (mkF m 78 #[iv va, iv vb, iv vc, iv vm, rv b1, rv b5, iv (bitAt (own_f va vb vc 0 &&& 255) 0), iv (own_f va vb vc 1 &&& 255), iv (bitAt (own_f va vb vc 2 &&& 255) 0)] [(.int vb), (.int (own_f va vb vc 1 &&& 255))]))
      refine Ends.go (fun _ => XS.sipush X12.here hx rfl (hb hby at_78)) ?_
      show Ends p.tables e below G (T12.setTop (mkF m 81 #[iv va, iv vb, iv vc, iv vm, rv b1, rv b5, iv (bitAt (own_f va vb vc 0 &&& 255) 0), iv (own_f va vb vc 1 &&& 255), iv (bitAt (own_f va vb vc 2 &&& 255) 0)] [(.int (255 : Int32)), (.int vb), (.int (own_f va vb vc 1 &&& 255))]))
      refine Ends.go (fun _ => XS.iand X12.here hx rfl (hb hby at_81) rfl) ?_
      show Ends p.tables e below G (T12.setTop (mkF m 82 #[iv va, iv vb, iv vc, iv vm, rv b1, rv b5, iv (bitAt (own_f va vb vc 0 &&& 255) 0), iv (own_f va vb vc 1 &&& 255), iv (bitAt (own_f va vb vc 2 &&& 255) 0)] [(.int (vb &&& (255 : Int32))), (.int (own_f va vb vc 1 &&& 255))]))
      refine Ends.go (fun _ => XS.icmpNo X12.here hx rfl (hb hby at_82) rfl (teq (own_lo1 va vb vc : (own_f va vb vc 1 &&& 255) = (vb &&& (255 : Int32)))).2) ?_
      show Ends p.tables e below G (T12.setTop (mkF m 85 #[iv va, iv vb, iv vc, iv vm, rv b1, rv b5, iv (bitAt (own_f va vb vc 0 &&& 255) 0), iv (own_f va vb vc 1 &&& 255), iv (bitAt (own_f va vb vc 2 &&& 255) 0)] []))
      refine Ends.go (fun _ => XS.iload X12.here hx rfl (hb hby at_85) rfl) ?_
      show Ends p.tables e below G (T12.setTop (mkF m 87 #[iv va, iv vb, iv vc, iv vm, rv b1, rv b5, iv (bitAt (own_f va vb vc 0 &&& 255) 0), iv (own_f va vb vc 1 &&& 255), iv (bitAt (own_f va vb vc 2 &&& 255) 0)] [(.int (bitAt (own_f va vb vc 2 &&& 255) 0))]))
      refine Ends.go (fun _ => XS.iloadN X12.here hx rfl (hb hby at_87) rfl) ?_
      show Ends p.tables e below G (T12.setTop (mkF m 88 #[iv va, iv vb, iv vc, iv vm, rv b1, rv b5, iv (bitAt (own_f va vb vc 0 &&& 255) 0), iv (own_f va vb vc 1 &&& 255), iv (bitAt (own_f va vb vc 2 &&& 255) 0)] [(.int vc), (.int (bitAt (own_f va vb vc 2 &&& 255) 0))]))
      refine Ends.go (fun _ => XS.iconst X12.here hx rfl (hb hby at_88)) ?_
      show Ends p.tables e below G (T12.setTop (mkF m 89 #[iv va, iv vb, iv vc, iv vm, rv b1, rv b5, iv (bitAt (own_f va vb vc 0 &&& 255) 0), iv (own_f va vb vc 1 &&& 255), iv (bitAt (own_f va vb vc 2 &&& 255) 0)] [(.int (1 : Int32)), (.int vc), (.int (bitAt (own_f va vb vc 2 &&& 255) 0))]))
      refine Ends.go (fun _ => XS.iand X12.here hx rfl (hb hby at_89) rfl) ?_
      show Ends p.tables e below G (T12.setTop (mkF m 90 #[iv va, iv vb, iv vc, iv vm, rv b1, rv b5, iv (bitAt (own_f va vb vc 0 &&& 255) 0), iv (own_f va vb vc 1 &&& 255), iv (bitAt (own_f va vb vc 2 &&& 255) 0)] [(.int (vc &&& (1 : Int32))), (.int (bitAt (own_f va vb vc 2 &&& 255) 0))]))
      refine Ends.go (fun _ => XS.iconst X12.here hx rfl (hb hby at_90)) ?_
      show Ends p.tables e below G (T12.setTop (mkF m 91 #[iv va, iv vb, iv vc, iv vm, rv b1, rv b5, iv (bitAt (own_f va vb vc 0 &&& 255) 0), iv (own_f va vb vc 1 &&& 255), iv (bitAt (own_f va vb vc 2 &&& 255) 0)] [(.int (1 : Int32)), (.int (vc &&& (1 : Int32))), (.int (bitAt (own_f va vb vc 2 &&& 255) 0))]))
      by_cases hc : ((vc &&& (1 : Int32)) = (1 : Int32))
      · refine Ends.go (fun _ => XS.icmpNo X12.here hx rfl (hb hby at_91) rfl (teq (hc : (vc &&& (1 : Int32)) = (1 : Int32))).2) ?_
        show Ends p.tables e below G (T12.setTop (mkF m 94 #[iv va, iv vb, iv vc, iv vm, rv b1, rv b5, iv (bitAt (own_f va vb vc 0 &&& 255) 0), iv (own_f va vb vc 1 &&& 255), iv (bitAt (own_f va vb vc 2 &&& 255) 0)] [(.int (bitAt (own_f va vb vc 2 &&& 255) 0))]))
        refine Ends.go (fun _ => XS.iconst X12.here hx rfl (hb hby at_94)) ?_
        show Ends p.tables e below G (T12.setTop (mkF m 95 #[iv va, iv vb, iv vc, iv vm, rv b1, rv b5, iv (bitAt (own_f va vb vc 0 &&& 255) 0), iv (own_f va vb vc 1 &&& 255), iv (bitAt (own_f va vb vc 2 &&& 255) 0)] [(.int (1 : Int32)), (.int (bitAt (own_f va vb vc 2 &&& 255) 0))]))
        refine Ends.go (fun _ => XS.goto X12.here hx rfl (pc0 := 95) (pc' := 99) rfl (hb hby at_95) (by decide) (by decide)) ?_
        show Ends p.tables e below G (T12.setTop (mkF m 99 #[iv va, iv vb, iv vc, iv vm, rv b1, rv b5, iv (bitAt (own_f va vb vc 0 &&& 255) 0), iv (own_f va vb vc 1 &&& 255), iv (bitAt (own_f va vb vc 2 &&& 255) 0)] [(.int (1 : Int32)), (.int (bitAt (own_f va vb vc 2 &&& 255) 0))]))
        refine Ends.go (fun _ => XS.icmpNo X12.here hx rfl (hb hby at_99) rfl (teq ((show bitAt (own_f va vb vc 2 &&& 255) 0 = _ from by rw [own_lo2, own_b0]; exact hc) : (bitAt (own_f va vb vc 2 &&& 255) 0) = (1 : Int32))).2) ?_
        show Ends p.tables e below G (T12.setTop (mkF m 102 #[iv va, iv vb, iv vc, iv vm, rv b1, rv b5, iv (bitAt (own_f va vb vc 0 &&& 255) 0), iv (own_f va vb vc 1 &&& 255), iv (bitAt (own_f va vb vc 2 &&& 255) 0)] []))
        refine Ends.go (fun _ => XS.iconst X12.here hx rfl (hb hby at_102)) ?_
        show Ends p.tables e below G (T12.setTop (mkF m 103 #[iv va, iv vb, iv vc, iv vm, rv b1, rv b5, iv (bitAt (own_f va vb vc 0 &&& 255) 0), iv (own_f va vb vc 1 &&& 255), iv (bitAt (own_f va vb vc 2 &&& 255) 0)] [(.int (1 : Int32))]))
        refine Ends.go (fun _ => XS.goto X12.here hx rfl (pc0 := 103) (pc' := 107) rfl (hb hby at_103) (by decide) (by decide)) ?_
        show Ends p.tables e below G (T12.setTop (mkF m 107 #[iv va, iv vb, iv vc, iv vm, rv b1, rv b5, iv (bitAt (own_f va vb vc 0 &&& 255) 0), iv (own_f va vb vc 1 &&& 255), iv (bitAt (own_f va vb vc 2 &&& 255) 0)] [(.int (1 : Int32))]))
        refine own_finS (t := .boolean) X12 hx Bd.returns (by simp) Bd.notSynchronized (hb hby at_107) (Q := (Q0 Z va vb vc vm h0 n0)) hG (by decide) (by decide) ?_
        show (Q0 Z va vb vc vm h0 n0) _ T12.heap _
        exact ⟨rfl, N12⟩
      · refine Ends.go (fun _ => XS.icmpYes X12.here hx rfl (pc0 := 91) (pc' := 98) rfl (hb hby at_91) rfl (feq (hc : ¬ ((vc &&& (1 : Int32)) = (1 : Int32)))).2 (by decide) (by decide)) ?_
        show Ends p.tables e below G (T12.setTop (mkF m 98 #[iv va, iv vb, iv vc, iv vm, rv b1, rv b5, iv (bitAt (own_f va vb vc 0 &&& 255) 0), iv (own_f va vb vc 1 &&& 255), iv (bitAt (own_f va vb vc 2 &&& 255) 0)] [(.int (bitAt (own_f va vb vc 2 &&& 255) 0))]))
        refine Ends.go (fun _ => XS.iconst X12.here hx rfl (hb hby at_98)) ?_
        show Ends p.tables e below G (T12.setTop (mkF m 99 #[iv va, iv vb, iv vc, iv vm, rv b1, rv b5, iv (bitAt (own_f va vb vc 0 &&& 255) 0), iv (own_f va vb vc 1 &&& 255), iv (bitAt (own_f va vb vc 2 &&& 255) 0)] [(.int (0 : Int32)), (.int (bitAt (own_f va vb vc 2 &&& 255) 0))]))
        refine Ends.go (fun _ => XS.icmpNo X12.here hx rfl (hb hby at_99) rfl (teq ((show bitAt (own_f va vb vc 2 &&& 255) 0 = _ from by rw [own_lo2, own_b0]; exact ((and_one _).resolve_right hc)) : (bitAt (own_f va vb vc 2 &&& 255) 0) = (0 : Int32))).2) ?_
        show Ends p.tables e below G (T12.setTop (mkF m 102 #[iv va, iv vb, iv vc, iv vm, rv b1, rv b5, iv (bitAt (own_f va vb vc 0 &&& 255) 0), iv (own_f va vb vc 1 &&& 255), iv (bitAt (own_f va vb vc 2 &&& 255) 0)] []))
        refine Ends.go (fun _ => XS.iconst X12.here hx rfl (hb hby at_102)) ?_
        show Ends p.tables e below G (T12.setTop (mkF m 103 #[iv va, iv vb, iv vc, iv vm, rv b1, rv b5, iv (bitAt (own_f va vb vc 0 &&& 255) 0), iv (own_f va vb vc 1 &&& 255), iv (bitAt (own_f va vb vc 2 &&& 255) 0)] [(.int (1 : Int32))]))
        refine Ends.go (fun _ => XS.goto X12.here hx rfl (pc0 := 103) (pc' := 107) rfl (hb hby at_103) (by decide) (by decide)) ?_
        show Ends p.tables e below G (T12.setTop (mkF m 107 #[iv va, iv vb, iv vc, iv vm, rv b1, rv b5, iv (bitAt (own_f va vb vc 0 &&& 255) 0), iv (own_f va vb vc 1 &&& 255), iv (bitAt (own_f va vb vc 2 &&& 255) 0)] [(.int (1 : Int32))]))
        refine own_finS (t := .boolean) X12 hx Bd.returns (by simp) Bd.notSynchronized (hb hby at_107) (Q := (Q0 Z va vb vc vm h0 n0)) hG (by decide) (by decide) ?_
        show (Q0 Z va vb vc vm h0 n0) _ T12.heap _
        exact ⟨rfl, N12⟩
    · refine Ends.go (fun _ => XS.icmpYes X12.here hx rfl (pc0 := 64) (pc' := 71) rfl (hb hby at_64) rfl (feq (ha : ¬ ((va &&& (1 : Int32)) = (1 : Int32)))).2 (by decide) (by decide)) ?_
      show Ends p.tables e below G (T12.setTop (mkF m 71 #[iv va, iv vb, iv vc, iv vm, rv b1, rv b5, iv (bitAt (own_f va vb vc 0 &&& 255) 0), iv (own_f va vb vc 1 &&& 255), iv (bitAt (own_f va vb vc 2 &&& 255) 0)] [(.int (bitAt (own_f va vb vc 0 &&& 255) 0))]))
      refine Ends.go (fun _ => XS.iconst X12.here hx rfl (hb hby at_71)) ?_
      show Ends p.tables e below G (T12.setTop (mkF m 72 #[iv va, iv vb, iv vc, iv vm, rv b1, rv b5, iv (bitAt (own_f va vb vc 0 &&& 255) 0), iv (own_f va vb vc 1 &&& 255), iv (bitAt (own_f va vb vc 2 &&& 255) 0)] [(.int (0 : Int32)), (.int (bitAt (own_f va vb vc 0 &&& 255) 0))]))
      refine Ends.go (fun _ => XS.icmpNo X12.here hx rfl (hb hby at_72) rfl (teq ((show bitAt (own_f va vb vc 0 &&& 255) 0 = _ from by rw [own_lo0, own_b0]; exact ((and_one _).resolve_right ha)) : (bitAt (own_f va vb vc 0 &&& 255) 0) = (0 : Int32))).2) ?_
      show Ends p.tables e below G (T12.setTop (mkF m 75 #[iv va, iv vb, iv vc, iv vm, rv b1, rv b5, iv (bitAt (own_f va vb vc 0 &&& 255) 0), iv (own_f va vb vc 1 &&& 255), iv (bitAt (own_f va vb vc 2 &&& 255) 0)] []))
      refine Ends.go (fun _ => XS.iload X12.here hx rfl (hb hby at_75) rfl) ?_
      show Ends p.tables e below G (T12.setTop (mkF m 77 #[iv va, iv vb, iv vc, iv vm, rv b1, rv b5, iv (bitAt (own_f va vb vc 0 &&& 255) 0), iv (own_f va vb vc 1 &&& 255), iv (bitAt (own_f va vb vc 2 &&& 255) 0)] [(.int (own_f va vb vc 1 &&& 255))]))
      refine Ends.go (fun _ => XS.iloadN X12.here hx rfl (hb hby at_77) rfl) ?_
      show Ends p.tables e below G (T12.setTop (mkF m 78 #[iv va, iv vb, iv vc, iv vm, rv b1, rv b5, iv (bitAt (own_f va vb vc 0 &&& 255) 0), iv (own_f va vb vc 1 &&& 255), iv (bitAt (own_f va vb vc 2 &&& 255) 0)] [(.int vb), (.int (own_f va vb vc 1 &&& 255))]))
      refine Ends.go (fun _ => XS.sipush X12.here hx rfl (hb hby at_78)) ?_
      show Ends p.tables e below G (T12.setTop (mkF m 81 #[iv va, iv vb, iv vc, iv vm, rv b1, rv b5, iv (bitAt (own_f va vb vc 0 &&& 255) 0), iv (own_f va vb vc 1 &&& 255), iv (bitAt (own_f va vb vc 2 &&& 255) 0)] [(.int (255 : Int32)), (.int vb), (.int (own_f va vb vc 1 &&& 255))]))
      refine Ends.go (fun _ => XS.iand X12.here hx rfl (hb hby at_81) rfl) ?_
      show Ends p.tables e below G (T12.setTop (mkF m 82 #[iv va, iv vb, iv vc, iv vm, rv b1, rv b5, iv (bitAt (own_f va vb vc 0 &&& 255) 0), iv (own_f va vb vc 1 &&& 255), iv (bitAt (own_f va vb vc 2 &&& 255) 0)] [(.int (vb &&& (255 : Int32))), (.int (own_f va vb vc 1 &&& 255))]))
      refine Ends.go (fun _ => XS.icmpNo X12.here hx rfl (hb hby at_82) rfl (teq (own_lo1 va vb vc : (own_f va vb vc 1 &&& 255) = (vb &&& (255 : Int32)))).2) ?_
      show Ends p.tables e below G (T12.setTop (mkF m 85 #[iv va, iv vb, iv vc, iv vm, rv b1, rv b5, iv (bitAt (own_f va vb vc 0 &&& 255) 0), iv (own_f va vb vc 1 &&& 255), iv (bitAt (own_f va vb vc 2 &&& 255) 0)] []))
      refine Ends.go (fun _ => XS.iload X12.here hx rfl (hb hby at_85) rfl) ?_
      show Ends p.tables e below G (T12.setTop (mkF m 87 #[iv va, iv vb, iv vc, iv vm, rv b1, rv b5, iv (bitAt (own_f va vb vc 0 &&& 255) 0), iv (own_f va vb vc 1 &&& 255), iv (bitAt (own_f va vb vc 2 &&& 255) 0)] [(.int (bitAt (own_f va vb vc 2 &&& 255) 0))]))
      refine Ends.go (fun _ => XS.iloadN X12.here hx rfl (hb hby at_87) rfl) ?_
      show Ends p.tables e below G (T12.setTop (mkF m 88 #[iv va, iv vb, iv vc, iv vm, rv b1, rv b5, iv (bitAt (own_f va vb vc 0 &&& 255) 0), iv (own_f va vb vc 1 &&& 255), iv (bitAt (own_f va vb vc 2 &&& 255) 0)] [(.int vc), (.int (bitAt (own_f va vb vc 2 &&& 255) 0))]))
      refine Ends.go (fun _ => XS.iconst X12.here hx rfl (hb hby at_88)) ?_
      show Ends p.tables e below G (T12.setTop (mkF m 89 #[iv va, iv vb, iv vc, iv vm, rv b1, rv b5, iv (bitAt (own_f va vb vc 0 &&& 255) 0), iv (own_f va vb vc 1 &&& 255), iv (bitAt (own_f va vb vc 2 &&& 255) 0)] [(.int (1 : Int32)), (.int vc), (.int (bitAt (own_f va vb vc 2 &&& 255) 0))]))
      refine Ends.go (fun _ => XS.iand X12.here hx rfl (hb hby at_89) rfl) ?_
      show Ends p.tables e below G (T12.setTop (mkF m 90 #[iv va, iv vb, iv vc, iv vm, rv b1, rv b5, iv (bitAt (own_f va vb vc 0 &&& 255) 0), iv (own_f va vb vc 1 &&& 255), iv (bitAt (own_f va vb vc 2 &&& 255) 0)] [(.int (vc &&& (1 : Int32))), (.int (bitAt (own_f va vb vc 2 &&& 255) 0))]))
      refine Ends.go (fun _ => XS.iconst X12.here hx rfl (hb hby at_90)) ?_
      show Ends p.tables e below G (T12.setTop (mkF m 91 #[iv va, iv vb, iv vc, iv vm, rv b1, rv b5, iv (bitAt (own_f va vb vc 0 &&& 255) 0), iv (own_f va vb vc 1 &&& 255), iv (bitAt (own_f va vb vc 2 &&& 255) 0)] [(.int (1 : Int32)), (.int (vc &&& (1 : Int32))), (.int (bitAt (own_f va vb vc 2 &&& 255) 0))]))
      by_cases hc : ((vc &&& (1 : Int32)) = (1 : Int32))
      · refine Ends.go (fun _ => XS.icmpNo X12.here hx rfl (hb hby at_91) rfl (teq (hc : (vc &&& (1 : Int32)) = (1 : Int32))).2) ?_
        show Ends p.tables e below G (T12.setTop (mkF m 94 #[iv va, iv vb, iv vc, iv vm, rv b1, rv b5, iv (bitAt (own_f va vb vc 0 &&& 255) 0), iv (own_f va vb vc 1 &&& 255), iv (bitAt (own_f va vb vc 2 &&& 255) 0)] [(.int (bitAt (own_f va vb vc 2 &&& 255) 0))]))
        refine Ends.go (fun _ => XS.iconst X12.here hx rfl (hb hby at_94)) ?_
        show Ends p.tables e below G (T12.setTop (mkF m 95 #[iv va, iv vb, iv vc, iv vm, rv b1, rv b5, iv (bitAt (own_f va vb vc 0 &&& 255) 0), iv (own_f va vb vc 1 &&& 255), iv (bitAt (own_f va vb vc 2 &&& 255) 0)] [(.int (1 : Int32)), (.int (bitAt (own_f va vb vc 2 &&& 255) 0))]))
        refine Ends.go (fun _ => XS.goto X12.here hx rfl (pc0 := 95) (pc' := 99) rfl (hb hby at_95) (by decide) (by decide)) ?_
        show Ends p.tables e below G (T12.setTop (mkF m 99 #[iv va, iv vb, iv vc, iv vm, rv b1, rv b5, iv (bitAt (own_f va vb vc 0 &&& 255) 0), iv (own_f va vb vc 1 &&& 255), iv (bitAt (own_f va vb vc 2 &&& 255) 0)] [(.int (1 : Int32)), (.int (bitAt (own_f va vb vc 2 &&& 255) 0))]))
        refine Ends.go (fun _ => XS.icmpNo X12.here hx rfl (hb hby at_99) rfl (teq ((show bitAt (own_f va vb vc 2 &&& 255) 0 = _ from by rw [own_lo2, own_b0]; exact hc) : (bitAt (own_f va vb vc 2 &&& 255) 0) = (1 : Int32))).2) ?_
        show Ends p.tables e below G (T12.setTop (mkF m 102 #[iv va, iv vb, iv vc, iv vm, rv b1, rv b5, iv (bitAt (own_f va vb vc 0 &&& 255) 0), iv (own_f va vb vc 1 &&& 255), iv (bitAt (own_f va vb vc 2 &&& 255) 0)] []))
        refine Ends.go (fun _ => XS.iconst X12.here hx rfl (hb hby at_102)) ?_
        show Ends p.tables e below G (T12.setTop (mkF m 103 #[iv va, iv vb, iv vc, iv vm, rv b1, rv b5, iv (bitAt (own_f va vb vc 0 &&& 255) 0), iv (own_f va vb vc 1 &&& 255), iv (bitAt (own_f va vb vc 2 &&& 255) 0)] [(.int (1 : Int32))]))
        refine Ends.go (fun _ => XS.goto X12.here hx rfl (pc0 := 103) (pc' := 107) rfl (hb hby at_103) (by decide) (by decide)) ?_
        show Ends p.tables e below G (T12.setTop (mkF m 107 #[iv va, iv vb, iv vc, iv vm, rv b1, rv b5, iv (bitAt (own_f va vb vc 0 &&& 255) 0), iv (own_f va vb vc 1 &&& 255), iv (bitAt (own_f va vb vc 2 &&& 255) 0)] [(.int (1 : Int32))]))
        refine own_finS (t := .boolean) X12 hx Bd.returns (by simp) Bd.notSynchronized (hb hby at_107) (Q := (Q0 Z va vb vc vm h0 n0)) hG (by decide) (by decide) ?_
        show (Q0 Z va vb vc vm h0 n0) _ T12.heap _
        exact ⟨rfl, N12⟩
      · refine Ends.go (fun _ => XS.icmpYes X12.here hx rfl (pc0 := 91) (pc' := 98) rfl (hb hby at_91) rfl (feq (hc : ¬ ((vc &&& (1 : Int32)) = (1 : Int32)))).2 (by decide) (by decide)) ?_
        show Ends p.tables e below G (T12.setTop (mkF m 98 #[iv va, iv vb, iv vc, iv vm, rv b1, rv b5, iv (bitAt (own_f va vb vc 0 &&& 255) 0), iv (own_f va vb vc 1 &&& 255), iv (bitAt (own_f va vb vc 2 &&& 255) 0)] [(.int (bitAt (own_f va vb vc 2 &&& 255) 0))]))
        refine Ends.go (fun _ => XS.iconst X12.here hx rfl (hb hby at_98)) ?_
        show Ends p.tables e below G (T12.setTop (mkF m 99 #[iv va, iv vb, iv vc, iv vm, rv b1, rv b5, iv (bitAt (own_f va vb vc 0 &&& 255) 0), iv (own_f va vb vc 1 &&& 255), iv (bitAt (own_f va vb vc 2 &&& 255) 0)] [(.int (0 : Int32)), (.int (bitAt (own_f va vb vc 2 &&& 255) 0))]))
        refine Ends.go (fun _ => XS.icmpNo X12.here hx rfl (hb hby at_99) rfl (teq ((show bitAt (own_f va vb vc 2 &&& 255) 0 = _ from by rw [own_lo2, own_b0]; exact ((and_one _).resolve_right hc)) : (bitAt (own_f va vb vc 2 &&& 255) 0) = (0 : Int32))).2) ?_
        show Ends p.tables e below G (T12.setTop (mkF m 102 #[iv va, iv vb, iv vc, iv vm, rv b1, rv b5, iv (bitAt (own_f va vb vc 0 &&& 255) 0), iv (own_f va vb vc 1 &&& 255), iv (bitAt (own_f va vb vc 2 &&& 255) 0)] []))
        refine Ends.go (fun _ => XS.iconst X12.here hx rfl (hb hby at_102)) ?_
        show Ends p.tables e below G (T12.setTop (mkF m 103 #[iv va, iv vb, iv vc, iv vm, rv b1, rv b5, iv (bitAt (own_f va vb vc 0 &&& 255) 0), iv (own_f va vb vc 1 &&& 255), iv (bitAt (own_f va vb vc 2 &&& 255) 0)] [(.int (1 : Int32))]))
        refine Ends.go (fun _ => XS.goto X12.here hx rfl (pc0 := 103) (pc' := 107) rfl (hb hby at_103) (by decide) (by decide)) ?_
        show Ends p.tables e below G (T12.setTop (mkF m 107 #[iv va, iv vb, iv vc, iv vm, rv b1, rv b5, iv (bitAt (own_f va vb vc 0 &&& 255) 0), iv (own_f va vb vc 1 &&& 255), iv (bitAt (own_f va vb vc 2 &&& 255) 0)] [(.int (1 : Int32))]))
        refine own_finS (t := .boolean) X12 hx Bd.returns (by simp) Bd.notSynchronized (hb hby at_107) (Q := (Q0 Z va vb vc vm h0 n0)) hG (by decide) (by decide) ?_
        show (Q0 Z va vb vc vm h0 n0) _ T12.heap _
        exact ⟨rfl, N12⟩
set_option maxRecDepth 65536 in
set_option maxHeartbeats 40000000 in
theorem comes_1 {Post : Tables → Env → Array Value → State → Outcome → State → Prop} (hpost : ∀ tb e args s v u, (limb_1_1.after args s (.returned v) u = true ∧ limb_1_2.after args s (.returned v) u = true ∧ True) → FrameEnd s (.returned v) u (Jvm.fieldLocs frame_1_writes args s ++ Jvm.arrayLocs frame_1_arrays args s ++ Jvm.staticLocs frame_1_statics s) 16 128 → Post tb e args s (.returned v) u) :
    ArmFor flags0 classFile x code maxLocals ret World_1 tables_1 room_1 Calls_1 rest_1 Pre_1 Post := by
  intro l hfl _ _ p e ha hc hk s m args below hf hA hF happ hP
  obtain ⟨hcalls, hrest, hpre⟩ := hP
  obtain ⟨-, -, -, hnamed, -, -, -, hat⟩ := (Spec.applies_iff hf).mp happ
  obtain ⟨hg, hn⟩ := and_e (Cond.before_iff.mp (show (Jvm.Cond.and given_1 narrow_1).before args s = true from hpre))
  obtain ⟨gg1, gg2⟩ := and_e hg
  obtain ⟨gg3, gg4⟩ := and_e gg2
  obtain ⟨gg5, gg6⟩ := and_e gg4
  obtain ⟨gg7, gg8⟩ := and_e gg6
  obtain ⟨w0, w1, w2, w3, rfl⟩ : ∃ w0 w1 w2 w3 : Value, args = #[w0, w1, w2, w3] := by
    have hs : args.size = 4 := by simpa [Cond.value, given_1] using gg1
    obtain ⟨L⟩ := args
    match L, hs with
    | [w0, w1, w2, w3], _ => exact ⟨w0, w1, w2, w3, rfl⟩
  have hw := fun d (hd : d ∈ tables_1) => atoms_spec (ws := Jvm.Cond.code x code maxLocals ret :: tables_1) hat d (List.mem_cons_of_mem _ hd)
  obtain ⟨i0, ei0⟩ := is_v gg3
  obtain rfl : w0 = (.int i0) := Option.some.inj ei0
  obtain ⟨i1, ei1⟩ := is_v gg5
  obtain rfl : w1 = (.int i1) := Option.some.inj ei1
  obtain ⟨i2, ei2⟩ := is_v gg7
  obtain rfl : w2 = (.int i2) := Option.some.inj ei2
  obtain ⟨i3, ei3⟩ := is_v gg8
  obtain rfl : w3 = (.int i3) := Option.some.inj ei3
  obtain ⟨n, o, h1, h2, h3, _, L, rfl, ⟨rfl, N⟩, hq⟩ := rm0 l s _ hw tables_1 i0 i1 i2 i3 s.heap s.heap.size (Nat.le_refl _)  p e ha hc hk s m _ below hf ((Spec.applies_iff_loose hf).mp happ).1 ⟨rfl, State.Warmed39.refl s, rfl⟩ trivial
  refine ⟨n, _, h1, h2, h3, hpost _ _ _ _ _ _ ⟨Cond.after_iff.mpr rfl, Cond.after_iff.mpr (eq_i res_at (Term.int_eval (1)) rfl), trivial⟩ ⟨hq.1, hq.2.1, (hq.2.2.sift fun y hy => Or.inr (N y hy)).mono (by decide) (by decide)⟩⟩
theorem main_1_1 : Claimed_1_1 := comes_1 fun _ _ _ _ _ _ h hF => ⟨h.1, hF⟩
theorem main_1_2 : Claimed_1_2 := comes_1 fun _ _ _ _ _ _ h hF => ⟨h.2.1, hF⟩
end Jvm.Pilot.@@N@@
namespace Jvm.Pilot.@@N@@
open Jvm Jvm.ClassFile Sem Op Lib Jvm.Free Jvm.Stand Jvm.Pilot.@@N@@.Jvm.D
/-! MADE BY PROGRAM (witnessworld.py) out of the Statement's table words and the real class files: 9 classes; the members and pool entries that the words name. The judged class is class 1, her method 1. -/
namespace start1
open Jvm.ClassFile
def u (s : String) : CpInfo := .utf8 (stringToUtf16 s)
/-- a pool by its gaps: so many unusable entries, then the entry; so many at the end -/
def gap : Nat → List CpInfo → List CpInfo
  | 0, r => r
  | n + 1, r => .unusable :: gap n r
def poolList (es : List (Nat × CpInfo)) (last : Nat) : List CpInfo := es.foldr (fun e r => gap e.1 (e.2 :: r)) (gap last [])
def pool (es : List (Nat × CpInfo)) (last : Nat) : Array CpInfo := ⟨poolList es last⟩
def fileOf (pool : Array CpInfo) (this : Nat) (attrs : Array Attribute := #[]) (ms : Array MethodInfo := #[]) (fl : Nat := 33) (sup : Nat := 0) (ifs : Array Nat := #[]) (fds : Array FieldInfo := #[]) : ClassFile where
  minorVersion := 0
  majorVersion := 65
  constantPool := pool
  accessFlags := fl
  thisClass := this
  superClass := sup
  interfaces := ifs
  fields := fds
  methods := ms
  attributes := attrs
def plain (name : String) (sup : Option ClassId) : Class where
  name := name
  kind := .ordinary
  loader := none
  accessFlags := 33
  super := sup
  interfaces := #[]
  cf := none
  fields := #[]
  methods := #[]
  instanceTypes := #[]
  staticTypes := #[]
  resolved := #[]
  callSites := []
  init := .initialized
  statics := none
  mirror := none

def pool0 : Array CpInfo := pool [(5, u "<init>"), (0, u "()V"), (1, .class_ 10), (1, u "java/lang/Object")] 113

def k0c0 : Code := { maxStack := 0, maxLocals := 1, code := object_method_1_code, exceptionTable := #[], attributes := #[] }
def k0m0 : Method := { name := "<init>", desc := "()V", sig := { parameters := [], returnType := none }, accessFlags := 1, code := some k0c0 }
/-- java/lang/Object -/
def k0 : Class := { plain "java/lang/Object" none with
  accessFlags := 33
  interfaces := #[]
  cf := some (fileOf pool0 8 #[] #[{ accessFlags := 1, nameIndex := 5, descriptorIndex := 6, attributes := #[] }] 33 0 #[] #[])
  fields := #[]
  methods := #[k0m0]
  instanceTypes := #[]
  staticTypes := #[]
  resolved := Array.replicate 124 none
  statics := none }

def pool1 : Array CpInfo := pool [(2, .class_ 4), (1, u "java/lang/Object"), (0, u "<init>"), (0, u "()V"), (0, .class_ 8), (0, u "com/example/dispatchbook/dispatchbook/amqp/WireReader"), (0, .methodref 7 10), (0, .nameAndType 5 11), (0, u "([B)V"), (0, .methodref 7 13), (0, .nameAndType 14 15), (0, u "bit"), (0, u "()Z"), (0, .methodref 7 17), (0, .nameAndType 18 19), (0, u "octet"), (0, u "()I"), (0, .class_ 21), (0, u "com/example/dispatchbook/dispatchbook/amqp/WireReaderOctetPinLaw"), (2, u "law"), (0, u "(IIII)Z")] 8

def k1m0 : Method := { name := "<init>", desc := "()V", sig := { parameters := [], returnType := none }, accessFlags := 1, code := none }
def k1c1 : Code := { maxStack := 4, maxLocals := 9, code := code, exceptionTable := #[], attributes := #[] }
def k1m1 : Method := { name := "law", desc := "(IIII)Z", sig := { parameters := [.int, .int, .int, .int], returnType := some .boolean }, accessFlags := 9, code := some k1c1 }
/-- com/example/dispatchbook/dispatchbook/amqp/WireReaderOctetPinLaw -/
def k1 : Class := { plain "com/example/dispatchbook/dispatchbook/amqp/WireReaderOctetPinLaw" (some 0) with
  accessFlags := 49
  interfaces := #[]
  cf := some (fileOf pool1 20 #[] #[{ accessFlags := 1, nameIndex := 5, descriptorIndex := 6, attributes := #[] }, { accessFlags := 9, nameIndex := 24, descriptorIndex := 25, attributes := #[] }] 49 2 #[] #[])
  fields := #[]
  methods := #[k1m0, k1m1]
  instanceTypes := #[]
  staticTypes := #[]
  resolved := Array.replicate 34 none
  statics := none }

def pool2 : Array CpInfo := pool [(1, .methodref 2 3), (0, .class_ 4), (0, .nameAndType 5 6), (0, u "java/lang/Object"), (0, u "<init>"), (0, u "()V"), (0, .fieldref 8 9), (0, .class_ 10), (0, .nameAndType 11 12), (0, u "com/example/dispatchbook/dispatchbook/amqp/WireReader"), (0, u "bitCount"), (0, u "I"), (0, .fieldref 8 14), (0, .nameAndType 15 16), (0, u "bytes"), (0, u "[B"), (0, .methodref 8 18), (0, .nameAndType 19 20), (0, u "require"), (0, u "(I)V"), (0, .fieldref 8 22), (0, .nameAndType 23 12), (0, u "position"), (0, .methodref 8 25), (0, .nameAndType 26 27), (0, u "octet"), (0, u "()I"), (31, .fieldref 8 60), (0, .nameAndType 61 12), (0, u "bits"), (13, u "([B)V"), (7, u "bit"), (0, u "()Z")] 20

def k2c0 : Code := { maxStack := 2, maxLocals := 2, code := prog_11_method_1_code, exceptionTable := #[], attributes := #[] }
def k2m0 : Method := { name := "<init>", desc := "([B)V", sig := { parameters := [(.array .byte)], returnType := none }, accessFlags := 0, code := some k2c0 }
def k2c1 : Code := { maxStack := 5, maxLocals := 1, code := prog_11_method_2_code, exceptionTable := #[], attributes := #[] }
def k2m1 : Method := { name := "octet", desc := "()I", sig := { parameters := [], returnType := some .int }, accessFlags := 0, code := some k2c1 }
def k2c2 : Code := { maxStack := 5, maxLocals := 1, code := prog_11_method_8_code, exceptionTable := #[], attributes := #[] }
def k2m2 : Method := { name := "bit", desc := "()Z", sig := { parameters := [], returnType := some .boolean }, accessFlags := 0, code := some k2c2 }
def k2c3 : Code := { maxStack := 3, maxLocals := 2, code := prog_11_method_11_code, exceptionTable := #[], attributes := #[] }
def k2m3 : Method := { name := "require", desc := "(I)V", sig := { parameters := [.int], returnType := none }, accessFlags := 2, code := some k2c3 }
/-- com/example/dispatchbook/dispatchbook/amqp/WireReader -/
def k2 : Class := { plain "com/example/dispatchbook/dispatchbook/amqp/WireReader" (some 0) with
  accessFlags := 48
  interfaces := #[]
  cf := some (fileOf pool2 8 #[] #[{ accessFlags := 0, nameIndex := 5, descriptorIndex := 75, attributes := #[] }, { accessFlags := 0, nameIndex := 26, descriptorIndex := 27, attributes := #[] }, { accessFlags := 0, nameIndex := 83, descriptorIndex := 84, attributes := #[] }, { accessFlags := 2, nameIndex := 19, descriptorIndex := 20, attributes := #[] }] 48 2 #[] #[{ accessFlags := 18, nameIndex := 15, descriptorIndex := 16, attributes := #[] }, { accessFlags := 2, nameIndex := 23, descriptorIndex := 12, attributes := #[] }, { accessFlags := 2, nameIndex := 61, descriptorIndex := 12, attributes := #[] }, { accessFlags := 2, nameIndex := 11, descriptorIndex := 12, attributes := #[] }])
  fields := #[{ name := "bytes", type := (.array .byte), accessFlags := 18, slot := 0, constantValue := 0 }, { name := "position", type := .int, accessFlags := 2, slot := 1, constantValue := 0 }, { name := "bits", type := .int, accessFlags := 2, slot := 2, constantValue := 0 }, { name := "bitCount", type := .int, accessFlags := 2, slot := 3, constantValue := 0 }]
  methods := #[k2m0, k2m1, k2m2, k2m3]
  instanceTypes := #[(.array .byte), .int, .int, .int]
  staticTypes := #[]
  resolved := Array.replicate 105 none
  statics := none }

def pool3 : Array CpInfo := pool [(1, u "java/lang/Cloneable"), (0, .class_ 1), (0, u "java/lang/Object"), (0, .class_ 3)] 3

/-- java/lang/Cloneable -/
def k3 : Class := { plain "java/lang/Cloneable" (some 0) with
  accessFlags := 1537
  interfaces := #[]
  cf := some (fileOf pool3 2 #[] #[] 1537 4 #[] #[])
  fields := #[]
  methods := #[]
  instanceTypes := #[]
  staticTypes := #[]
  resolved := Array.replicate 8 none
  statics := none }

def pool4 : Array CpInfo := pool [(1, u "java/io/Serializable"), (0, .class_ 1), (0, u "java/lang/Object"), (0, .class_ 3)] 3

/-- java/io/Serializable -/
def k4 : Class := { plain "java/io/Serializable" (some 0) with
  accessFlags := 1537
  interfaces := #[]
  cf := some (fileOf pool4 2 #[] #[] 1537 4 #[] #[])
  fields := #[]
  methods := #[]
  instanceTypes := #[]
  staticTypes := #[]
  resolved := Array.replicate 8 none
  statics := none }

/-- the primitive byte -/
def k5 : Class := { plain "byte" none with kind := .primitive 'B', accessFlags := 0x411 }
/-- [B -/
def k6 : Class := { plain "[B" (some 0) with kind := .array 5 .byte, interfaces := #[3, 4], accessFlags := 1041 }

/-- the primitive int -/
def k7 : Class := { plain "int" none with kind := .primitive 'I', accessFlags := 0x411 }
/-- [I -/
def k8 : Class := { plain "[I" (some 0) with kind := .array 7 .int, interfaces := #[3, 4], accessFlags := 1041 }

def heap : Heap := #[]
def classes : Array Class := #[k0, k1, k2, k3, k4, k5, k6, k7, k8]
def interned : List (Array UInt16 × Addr) := []
def slotsUsed : Nat := 0
def theMethod : MethodId := ⟨1, 1⟩
def args0 : Array Value := #[.int 5, .int 6, .int 7, .int 1]
def aboutOver (below : List Frame) : State where
  vm := { classes := classes, interned := interned.toArray }
  heap := heap
  slotsUsed := slotsUsed
  threads := #[{ frames := .invoking theMethod args0 :: below }]
def below0 : List Frame := [.native { method := ⟨0, 0⟩, args := #[] }]
def about1 : State := aboutOver below0
def p0 : Program := .bare "" "" ""
def e0 : Env := launch0.env 0 0 0
theorem w_frames : about1.frames = Frame.invoking theMethod args0 :: below0 := rfl
set_option maxRecDepth 65536 in
theorem w_args : argsFit about1.vm theMethod args0 = true := by decide +kernel
set_option maxRecDepth 65536 in
theorem w_heap : heapFits about1 = true := by decide +kernel
set_option maxRecDepth 65536 in
theorem w_runnable : about1.curStatus? = some .runnable := by decide +kernel
set_option maxRecDepth 65536 in
theorem w_alone : about1.alone = true := by decide +kernel
set_option maxRecDepth 65536 in
theorem w_named : about1.methodNamed? x = some theMethod := by decide +kernel
set_option maxRecDepth 65536 in
theorem w_hears : about1.hears theMethod below0 = true := by decide +kernel
set_option maxRecDepth 65536 in
theorem w_ripe : about1.ripe theMethod args0 below0 = true := by decide +kernel
theorem w_running : about1.status = .running := rfl
set_option maxRecDepth 65536 in
theorem w_room : about1.hasRoom e0.platform room_1 = true :=
  launch0.hasRoom_least _ room_1 (by decide +kernel) (by decide +kernel) (by decide +kernel) (by decide +kernel) (by decide +kernel) (by decide +kernel)
theorem allAtoms_all (ts : List Jvm.Cond) (a : Array Jvm.Value) (st : Jvm.State) : (allAtoms ts).before a st = ts.all (fun c => c.before a st) := by
  induction ts with
  | nil => rfl
  | cons c t ih =>
    show (Jvm.Cond.and c (allAtoms t)).before a st = _
    rw [Jvm.Cond.before_and, ih, List.all_cons]
def words1 : List Jvm.Cond := Jvm.Cond.code x code maxLocals ret :: tables_1
/-- a 'code' word, met by the world's own term for the bytes: nothing is compared byte by byte -/
theorem code_word {y : MethodName} {bytes : ByteArray} {mx : Nat} {rt : Option FieldType} {a : Array Value} {s : State} {m : MethodId} {meth : Method} {c : Code} (h1 : s.methodNamed? y = some m) (h2 : s.vm.method? m = some meth) (h3 : meth.code = some c) (h4 : c.code = bytes)
    (h5 : (c.maxLocals == mx && c.exceptionTable.isEmpty && decide (c.maxStack ≤ mostOperands) && decide (meth.sig.returnType = rt) && !meth.locks && decide (parseMethodDescriptor y.desc = some meth.sig)) = true) : (Jvm.Cond.code y bytes mx rt).before a s = true := by
  simp only [Bool.and_eq_true, beq_iff_eq, Bool.not_eq_true', decide_eq_true_eq] at h5
  obtain ⟨⟨⟨⟨⟨g1, g2⟩, g3⟩, g4⟩, g5⟩, g6⟩ := h5
  simp [Cond.before, Cond.holds, Cond.value, h1, h2, h3, h4, g1, g2, g3, g4, g5, g6]
def isCode : Jvm.Cond → Bool
  | .code _ _ _ _ => true
  | _ => false
theorem all_split {L : List Jvm.Cond} {P : Jvm.Cond → Bool} (h1 : L.all (fun c => isCode c || P c) = true) (h2 : ∀ c ∈ L.filter isCode, P c = true) : L.all P = true := by
  refine List.all_eq_true.mpr fun c hc => ?_
  have h := List.all_eq_true.mp h1 c hc
  rcases Bool.eq_false_or_eq_true (isCode c) with hi | hi
  · exact h2 c (List.mem_filter.mpr ⟨hc, hi⟩)
  · simpa [hi] using h
set_option maxRecDepth 65536 in
theorem w_c0 : (Jvm.Cond.code x code maxLocals ret).before args0 about1 = true := code_word (m := ⟨1, 1⟩) (meth := k1m1) (c := k1c1) (by decide +kernel) rfl rfl rfl (by decide +kernel)
set_option maxRecDepth 65536 in
theorem w_c1 : (Jvm.Cond.code ({ cls := "com/example/dispatchbook/dispatchbook/amqp/WireReader", name := "<init>", desc := "([B)V" } : Jvm.MethodName) prog_11_method_1_code (2 : Nat) (Option.none : Option Jvm.ClassFile.FieldType)).before args0 about1 = true := code_word (m := ⟨2, 0⟩) (meth := k2m0) (c := k2c0) (by decide +kernel) rfl rfl rfl (by decide +kernel)
set_option maxRecDepth 65536 in
theorem w_c2 : (Jvm.Cond.code ({ cls := "java/lang/Object", name := "<init>", desc := "()V" } : Jvm.MethodName) object_method_1_code (1 : Nat) (Option.none : Option Jvm.ClassFile.FieldType)).before args0 about1 = true := code_word (m := ⟨0, 0⟩) (meth := k0m0) (c := k0c0) (by decide +kernel) rfl rfl rfl (by decide +kernel)
set_option maxRecDepth 65536 in
theorem w_c3 : (Jvm.Cond.code ({ cls := "com/example/dispatchbook/dispatchbook/amqp/WireReader", name := "bit", desc := "()Z" } : Jvm.MethodName) prog_11_method_8_code (1 : Nat) (Option.some Jvm.ClassFile.FieldType.boolean)).before args0 about1 = true := code_word (m := ⟨2, 2⟩) (meth := k2m2) (c := k2c2) (by decide +kernel) rfl rfl rfl (by decide +kernel)
set_option maxRecDepth 65536 in
theorem w_c4 : (Jvm.Cond.code ({ cls := "com/example/dispatchbook/dispatchbook/amqp/WireReader", name := "octet", desc := "()I" } : Jvm.MethodName) prog_11_method_2_code (1 : Nat) (Option.some Jvm.ClassFile.FieldType.int)).before args0 about1 = true := code_word (m := ⟨2, 1⟩) (meth := k2m1) (c := k2c1) (by decide +kernel) rfl rfl rfl (by decide +kernel)
set_option maxRecDepth 65536 in
theorem w_c5 : (Jvm.Cond.code ({ cls := "com/example/dispatchbook/dispatchbook/amqp/WireReader", name := "require", desc := "(I)V" } : Jvm.MethodName) prog_11_method_11_code (2 : Nat) (Option.none : Option Jvm.ClassFile.FieldType)).before args0 about1 = true := code_word (m := ⟨2, 3⟩) (meth := k2m3) (c := k2c3) (by decide +kernel) rfl rfl rfl (by decide +kernel)
def codes1 : List Jvm.Cond := [Jvm.Cond.code x code maxLocals ret, Jvm.Cond.code ({ cls := "com/example/dispatchbook/dispatchbook/amqp/WireReader", name := "<init>", desc := "([B)V" } : Jvm.MethodName) prog_11_method_1_code (2 : Nat) (Option.none : Option Jvm.ClassFile.FieldType), Jvm.Cond.code ({ cls := "java/lang/Object", name := "<init>", desc := "()V" } : Jvm.MethodName) object_method_1_code (1 : Nat) (Option.none : Option Jvm.ClassFile.FieldType), Jvm.Cond.code ({ cls := "com/example/dispatchbook/dispatchbook/amqp/WireReader", name := "bit", desc := "()Z" } : Jvm.MethodName) prog_11_method_8_code (1 : Nat) (Option.some Jvm.ClassFile.FieldType.boolean), Jvm.Cond.code ({ cls := "com/example/dispatchbook/dispatchbook/amqp/WireReader", name := "octet", desc := "()I" } : Jvm.MethodName) prog_11_method_2_code (1 : Nat) (Option.some Jvm.ClassFile.FieldType.int), Jvm.Cond.code ({ cls := "com/example/dispatchbook/dispatchbook/amqp/WireReader", name := "require", desc := "(I)V" } : Jvm.MethodName) prog_11_method_11_code (2 : Nat) (Option.none : Option Jvm.ClassFile.FieldType)]
set_option maxRecDepth 65536 in
theorem codes_eq : words1.filter isCode = codes1 := rfl
theorem w_codes : ∀ c ∈ words1.filter isCode, c.before args0 about1 = true := by
  rw [codes_eq]
  intro c hc
  simp only [codes1, List.mem_cons, List.not_mem_nil, or_false] at hc
  rcases hc with rfl | rfl | rfl | rfl | rfl | rfl
  · exact w_c0
  · exact w_c1
  · exact w_c2
  · exact w_c3
  · exact w_c4
  · exact w_c5
set_option maxRecDepth 65536 in
theorem w_t1 : (words1.take 24).all (fun c => isCode c || c.before args0 about1) = true := by decide +kernel
set_option maxRecDepth 65536 in
theorem w_t2 : (words1.drop 24).all (fun c => isCode c || c.before args0 about1) = true := by decide +kernel
theorem w_tables : (allAtoms (Jvm.Cond.code x code maxLocals ret :: tables_1)).before args0 about1 = true := by
  rw [allAtoms_all]
  show words1.all (fun c => c.before args0 about1) = true
  refine all_split ?_ w_codes
  rw [← List.take_append_drop 24 words1, List.all_append, w_t1, w_t2]
  rfl
set_option maxRecDepth 65536 in
theorem w_case : (Jvm.Cond.and given_1 narrow_1).before args0 about1 = true := by decide +kernel
theorem w_applies : (headSpec (Jvm.Cond.code x code maxLocals ret :: tables_1) room_1).applies x e0.platform about1 = true :=
  (Spec.applies_iff w_frames).mpr ⟨w_running, w_runnable, w_alone, w_named, w_hears, w_ripe, w_room, w_tables⟩
theorem atStart : AtStart classFile x code maxLocals ret World_1 tables_1 room_1 Calls_1 rest_1 Pre_1 launch0 p0 e0 about1 theMethod args0 below0 :=
  ⟨lists_1, trivial, launch0.admits_env _ _ _, launch0.least_env, fairChoices_fair.cas, fairChoices_fair.clock, w_frames, w_args, w_heap, w_applies, trivial, trivial, w_case⟩
end start1
theorem witness_1 : WitnessClaimed_1 := ⟨start1.p0, start1.e0, start1.about1, start1.theMethod, start1.args0, start1.below0, start1.atStart⟩
end Jvm.Pilot.@@N@@
