import JvmDerived
import JvmDerived.Pilot.@@N@@Statement
import JvmDerived.Pilot.@@N@@Code
set_option linter.unusedVariables false
set_option linter.unusedSimpArgs false
namespace Jvm.RoadKit
open Sem ClassFile Op Lib Jvm.Stand Jvm.Free Jvm.LawKit
section New
variable {p : Program} {l : Launch} {e : Env} {R : Room} {s : State} {m : MethodId} {args : Array Value} {below : List Frame} {meth : Method} {c : Code} {T : State} {locs : List Loc} {cells slots : Nat}
theorem retI (X : Stand p l e R s m args below meth c T locs cells slots) (hx : p.tables.exec = Jvm.exec) {pc : Nat} {Ls : Array Slot} {z : Int32} {rest : List Value} (hret : meth.sig.returnType = some .int) (hd : decode c.code pc = .ok (.ireturn, 1)) {fs : List Frame}
    (hl : ∀ (f : JFrame) (acts : List Action), f.method = m → f.locked = none → f.entered = [] → (doReturn e (T.setTop f) acts (some (.int z))).1 = T.setFrames fs) : Steps p.tables e below (T.setTop (mkF m pc Ls (.int z :: rest))) (T.setFrames fs) := by
  have hm' : T.vm.method? m = some meth := X.method'
  have hn : narrow .int (.int z) = .int z := rfl
  show Steps p.tables e below (T.setTop { method := m, pc := pc, locals := Ls, stack := _ :: rest, locked := none }) _
  jvm_step X.here [X.here.top, hx, hd, hm', hret, hn]
  first | (intro acts; rw [hl _ acts rfl rfl rfl]) | rw [hl _ _ rfl rfl rfl]
  exact Steps.refl _
end New
end Jvm.RoadKit
namespace Jvm.Pilot.@@N@@
open Jvm Jvm.ClassFile Sem Op Lib Jvm.Free Jvm.Stand Jvm.LawKit Jvm.RoadKit Bundle Jvm.Pilot.@@N@@.Jvm.D
abbrev un : Slot := .unset
theorem own_tn {j : Int32} {i : Nat} (hj : j.toInt = (i : Int)) : j.toNatClampNeg = i := by
  simp only [Int32.toNatClampNeg, hj]; rfl
theorem own_inb {j : Int32} {i n k : Nat} (hj : j.toInt = (i : Int)) (hi : i < n) (hn : k = n) : ¬ (j < 0 ∨ k ≤ j.toNatClampNeg) := by
  rw [own_tn hj, hn]
  rintro (h | h)
  · rw [Int32.lt_iff_toInt_lt, hj] at h
    have e0 : (0 : Int32).toInt = 0 := rfl
    omega
  · omega
theorem own_selP {s : State} {a1 a2 : Array Value} {y : MethodName} {n : Nat} (wi : (Jvm.Cond.instantiable y.cls n).before a1 s = true) (hpriv : s.PrivateAt y) (hinst : (Jvm.Cond.instanceMethod y).before a2 s = true) (hy : y.cls ≠ "java/lang/invoke/MethodHandle" ∧ y.cls ≠ "java/lang/invoke/VarHandle") : (Jvm.Cond.selects y.cls y y).before a2 s = true := by
  obtain ⟨c, k, h1, h2, h3, h4, -⟩ := Cond.instantiable_spec wi
  exact selects_self_of_private h1 h2 (by simp at h4; exact h4.1) hpriv hinst hy
def Ends (tb : Tables) (e : Env) (below : List Frame) (G : State → Outcome → Prop) (S : State) : Prop := ∃ s₂ o, Steps tb e below S s₂ ∧ s₂.status = .running ∧ Ended s₂ below o ∧ G s₂ o
section OwnEnds
variable {tb : Tables} {e : Env} {below : List Frame} {G : State → Outcome → Prop} {S S' : State}
theorem Ends.go (h : ∀ t, Steps tb e below S' t → Steps tb e below S t) (k : Ends tb e below G S') : Ends tb e below G S := by
  obtain ⟨s₂, o, a, b⟩ := k
  exact ⟨s₂, o, h _ a, b⟩
theorem Ends.any (h : ∀ G', (∀ s₂ o, G s₂ o → G' s₂ o) → Ends tb e below G' S) : Ends tb e below G S := h G fun _ _ k => k
end OwnEnds
section OwnFin
variable {p : Program} {l : Launch} {e : Env} {R : Room} {s : State} {m : MethodId} {args : Array Value} {below : List Frame} {meth : Method} {c : Code} {T : State} {locs : List Loc} {cells slots : Nat} {G : State → Outcome → Prop}
theorem own_finI (X : Stand p l e R s m args below meth c T locs cells slots) (hx : p.tables.exec = Jvm.exec) {pc : Nat} {Ls : Array Slot} {z : Int32} {rest : List Value} (hret : meth.sig.returnType = some .int) (hlk : meth.locks = false) (hd : decode c.code pc = .ok (.ireturn, 1)) {Q : Option Value → Heap → List Loc → Prop} {C K : Nat}
    (hG : ∀ s₂ o, (∃ v L, o = .returned v ∧ Q v s₂.heap L ∧ FrameEnd s o s₂ L C K) → G s₂ o) (hC : cells ≤ C) (hK : slots ≤ K) (hQ : Q (some (.int z)) T.heap locs) : Ends p.tables e below G (T.setTop (mkF m pc Ls (.int z :: rest))) := by
  obtain ⟨fs, hr, hrun, hended, hW, hsame⟩ := X.leave (v := some (.int z)) (fun h => by rw [hret] at h; cases h)
  exact ⟨_, _, retI X hx hret hd hr, hrun, hended, hG _ _ ⟨_, _, rfl, hQ, ⟨_, rfl⟩, hW, hsame.mono hC hK⟩⟩
theorem own_finS (X : Stand p l e R s m args below meth c T locs cells slots) (hx : p.tables.exec = Jvm.exec) {t : FieldType} {pc : Nat} {Ls : Array Slot} {z : Int32} {rest : List Value} (hret : meth.sig.returnType = some t) (ht : t = .boolean ∨ t = .byte ∨ t = .char ∨ t = .short) (hlk : meth.locks = false) (hd : decode c.code pc = .ok (.ireturn, 1)) {Q : Option Value → Heap → List Loc → Prop} {C K : Nat}
    (hG : ∀ s₂ o, (∃ v L, o = .returned v ∧ Q v s₂.heap L ∧ FrameEnd s o s₂ L C K) → G s₂ o) (hC : cells ≤ C) (hK : slots ≤ K) (hQ : Q (some (.int (nar t z))) T.heap locs) : Ends p.tables e below G (T.setTop (mkF m pc Ls (.int z :: rest))) := by
  obtain ⟨fs, hr, hrun, hended, hW, hsame⟩ := X.leave (v := some (.int (nar t z))) (fun h => by rw [hret] at h; cases h)
  exact ⟨_, _, retN X hx (t := t) hret ht hd hr, hrun, hended, hG _ _ ⟨_, _, rfl, hQ, ⟨_, rfl⟩, hW, hsame.mono hC hK⟩⟩
theorem own_finN (X : Stand p l e R s m args below meth c T locs cells slots) (hx : p.tables.exec = Jvm.exec) {pc : Nat} {Ls : Array Slot} (hret : meth.sig.returnType = none) (hlk : meth.locks = false) (hd : decode c.code pc = .ok (.return_, 1)) {Q : Option Value → Heap → List Loc → Prop} {C K : Nat}
    (hG : ∀ s₂ o, (∃ v L, o = .returned v ∧ Q v s₂.heap L ∧ FrameEnd s o s₂ L C K) → G s₂ o) (hC : cells ≤ C) (hK : slots ≤ K) (hQ : Q none T.heap locs) : Ends p.tables e below G (T.setTop (mkF m pc Ls [])) := by
  obtain ⟨fs, hr, hrun, hended, hW, hsame⟩ := X.leave (v := none) (fun _ => rfl)
  exact ⟨_, _, X.returnOut hx hret hd hr, hrun, hended, hG _ _ ⟨_, _, rfl, hQ, ⟨_, rfl⟩, hW, hsame.mono hC hK⟩⟩
end OwnFin
/-- an array by what each place holds -/
def AF (Z : State) (h : Heap) (a : Addr) (ty : FieldType) (n : Nat) (f : Nat → Value) : Prop := ∃ c : Cell, Arr Z h a c ty ∧ c.slots.size = n ∧ ∀ j, j < n → c.slots[j]? = some (f j)
section OwnAF
variable {Z : State} {h h' : Heap} {a b : Addr} {ty : FieldType} {n sl : Nat} {f g : Nat → Value} {v : Value} {ws : List Addr}
theorem AF.lt (F : AF Z h a ty n f) : a < h.size := by obtain ⟨c, A, -⟩ := F; exact A.lt
theorem AF.ext (F : AF Z h a ty n f) (E : Ext h h') : AF Z h' a ty n f := by obtain ⟨c, A, r⟩ := F; exact ⟨c, A.ext E, r⟩
theorem AF.other (F : AF Z h b ty n f) (W : Wr h h' a sl v) (q : b ≠ a) : AF Z h' b ty n f := by obtain ⟨c, A, r⟩ := F; exact ⟨c, A.other W q, r⟩
theorem AF.keep (F : AF Z h a ty n f) (K : Keep h h' ws) (q : a ∉ ws) : AF Z h' a ty n f := by obtain ⟨c, A, r⟩ := F; exact ⟨c, ⟨K.2.1 a c A.1 q, A.2⟩, r⟩
theorem AF.congr (F : AF Z h a ty n f) (q : ∀ j, j < n → f j = g j) : AF Z h a ty n g := by obtain ⟨c, A, r, u⟩ := F; exact ⟨c, A, r, fun j hj => by rw [u j hj, q j hj]⟩
theorem AF.new {k : ClassId} {z : Int32} (A : Arr Z h a (newA k ty z) ty) (q : z.toNatClampNeg = n) : AF Z h a ty n (fun _ => defaultValue ty) := ⟨_, A, by rw [sz_new]; exact q, fun i hi => by
  rw [← q] at hi; simp [newA, hi]⟩
theorem AF.set (F : AF Z h a ty n f) (W : Wr h h' a sl v) (hs : sl < n) : AF Z h' a ty n (fun k => if k = sl then v else f k) := by
  obtain ⟨c, A, r, u⟩ := F
  refine ⟨_, A.same W, by rw [sz_set]; exact r, fun j hj => ?_⟩
  by_cases q : j = sl
  · subst q; simp [Cell.setSlot, r, hj]
  · have := u j hj
    simp only [Cell.setSlot, if_neg q]
    rw [Array.getElem?_setIfInBounds_ne (fun z => q z.symm)]; exact this
variable {p : Program} {l : Launch} {e : Env} {R : Room} {s : State} {m : MethodId} {args : Array Value} {below : List Frame} {meth : Method} {c : Code} {T : State} {locs : List Loc} {cells slots : Nat}
theorem AF.ldB (F : AF Z h a .byte n f) (X : Stand p l e R s m args below meth c T locs cells slots) (hx : p.tables.exec = Jvm.exec) (hZ : Z.Warmed39 s.vm) (eT : T.heap = h) {j : Int32} {i : Nat} (hj : j.toInt = (i : Int)) (hi : i < n) {v : Value} (hv : f i = v) {g : JFrame} (hg : g.method = m) {rest : List Value} (hs : g.stack = .int j :: .ref a :: rest) (hd : decode c.code g.pc = .ok (.baload, 1)) (target : State)
    (k : Steps p.tables e below (T.setTop { g with pc := g.pc + 1, stack := v :: rest }) target) : Steps p.tables e below (T.setTop g) target := by
  obtain ⟨cl, A, r, u⟩ := F
  exact X.baloadBytes hx (by rw [eT]; exact A.1) (State.isArrayOf_alike hZ.alike A.2.1) A.2.2 (own_inb hj hi r) (by rw [own_tn hj, u i hi, hv]) hg hs hd _ k
theorem AF.ldC (F : AF Z h a .char n f) (X : Stand p l e R s m args below meth c T locs cells slots) (hx : p.tables.exec = Jvm.exec) (hZ : Z.Warmed39 s.vm) (eT : T.heap = h) {j : Int32} {i : Nat} (hj : j.toInt = (i : Int)) (hi : i < n) {v : Value} (hv : f i = v) {g : JFrame} (hg : g.method = m) {rest : List Value} (hs : g.stack = .int j :: .ref a :: rest) (hd : decode c.code g.pc = .ok (.caload, 1)) (target : State)
    (k : Steps p.tables e below (T.setTop { g with pc := g.pc + 1, stack := v :: rest }) target) : Steps p.tables e below (T.setTop g) target := by
  obtain ⟨cl, A, r, u⟩ := F
  exact X.caload hx (by rw [eT]; exact A.1) (State.isArrayOf_alike hZ.alike A.2.1) A.2.2 (own_inb hj hi r) (by rw [own_tn hj, u i hi, hv]) hg hs hd _ k
theorem AF.ldJ (F : AF Z h a .long n f) (X : Stand p l e R s m args below meth c T locs cells slots) (hx : p.tables.exec = Jvm.exec) (hZ : Z.Warmed39 s.vm) (eT : T.heap = h) {j : Int32} {i : Nat} (hj : j.toInt = (i : Int)) (hi : i < n) {v : Value} (hv : f i = v) {g : JFrame} (hg : g.method = m) {rest : List Value} (hs : g.stack = .int j :: .ref a :: rest) (hd : decode c.code g.pc = .ok (.laload, 1)) (target : State)
    (k : Steps p.tables e below (T.setTop { g with pc := g.pc + 1, stack := v :: rest }) target) : Steps p.tables e below (T.setTop g) target := by
  obtain ⟨cl, A, r, u⟩ := F
  exact X.laload hx (by rw [eT]; exact A.1) (State.isArrayOf_alike hZ.alike A.2.1) A.2.2 (own_inb hj hi r) (by rw [own_tn hj, u i hi, hv]) hg hs hd _ k
theorem AF.len (F : AF Z h a ty n f) (X : Stand p l e R s m args below meth c T locs cells slots) (hx : p.tables.exec = Jvm.exec) (hZ : Z.Warmed39 s.vm) (eT : T.heap = h) {z : Int32} (hz : n.toInt32 = z) {g : JFrame} (hg : g.method = m) {rest : List Value} (hs : g.stack = .ref a :: rest) (hd : decode c.code g.pc = .ok (.arraylength, 1)) (target : State)
    (k : Steps p.tables e below (T.setTop { g with pc := g.pc + 1, stack := .int z :: rest }) target) : Steps p.tables e below (T.setTop g) target := by
  obtain ⟨cl, A, r, u⟩ := F
  subst hz r
  exact X.arraylength hx (by rw [eT]; exact A.1) (State.isArrayOf_alike hZ.alike A.2.1) hg hs hd _ k
theorem AF.stB (F : AF Z h a .byte n f) (X : Stand p l e R s m args below meth c T locs cells slots) (hx : p.tables.exec = Jvm.exec) (hZ : Z.Warmed39 s.vm) (eT : T.heap = h) {j x : Int32} {i : Nat} (hj : j.toInt = (i : Int)) (hi : i < n) {g : JFrame} (hg : g.method = m) {rest : List Value} (hs : g.stack = .int x :: .int j :: .ref a :: rest) (hd : decode c.code g.pc = .ok (.bastore, 1)) :
    ∃ T' h', Stand p l e R s m args below meth c T' (locs ++ [⟨a, i⟩]) cells slots ∧ T'.heap = h' ∧ Wr h h' a i (.int (nar .byte x)) ∧ AF Z h' a .byte n (fun k => if k = i then .int (nar .byte x) else f k) ∧ ∀ target, Steps p.tables e below (T'.setTop { g with pc := g.pc + 1, stack := rest }) target → Steps p.tables e below (T.setTop g) target := by
  have F' := F
  obtain ⟨cl, A, r, u⟩ := F
  obtain ⟨T', h', X', e', W', st⟩ := RoadKit.stB X hx hZ eT A (own_inb hj hi r) hg hs hd
  rw [own_tn hj] at X' W'
  exact ⟨T', h', X', e', W', F'.set W' hi, st⟩
theorem AF.stC (F : AF Z h a .char n f) (X : Stand p l e R s m args below meth c T locs cells slots) (hx : p.tables.exec = Jvm.exec) (hZ : Z.Warmed39 s.vm) (eT : T.heap = h) {j x : Int32} {i : Nat} (hj : j.toInt = (i : Int)) (hi : i < n) {g : JFrame} (hg : g.method = m) {rest : List Value} (hs : g.stack = .int x :: .int j :: .ref a :: rest) (hd : decode c.code g.pc = .ok (.castore, 1)) :
    ∃ T' h', Stand p l e R s m args below meth c T' (locs ++ [⟨a, i⟩]) cells slots ∧ T'.heap = h' ∧ Wr h h' a i (.int (nar .char x)) ∧ AF Z h' a .char n (fun k => if k = i then .int (nar .char x) else f k) ∧ ∀ target, Steps p.tables e below (T'.setTop { g with pc := g.pc + 1, stack := rest }) target → Steps p.tables e below (T.setTop g) target := by
  have F' := F
  obtain ⟨cl, A, r, u⟩ := F
  obtain ⟨T', h', X', e', W', st⟩ := RoadKit.stC X hx hZ eT A (own_inb hj hi r) hg hs hd
  rw [own_tn hj] at X' W'
  exact ⟨T', h', X', e', W', F'.set W' hi, st⟩
theorem AF.stJ (F : AF Z h a .long n f) (X : Stand p l e R s m args below meth c T locs cells slots) (hx : p.tables.exec = Jvm.exec) (hZ : Z.Warmed39 s.vm) (eT : T.heap = h) {j : Int32} {x : Int64} {i : Nat} (hj : j.toInt = (i : Int)) (hi : i < n) {g : JFrame} (hg : g.method = m) {rest : List Value} (hs : g.stack = .long x :: .int j :: .ref a :: rest) (hd : decode c.code g.pc = .ok (.lastore, 1)) :
    ∃ T' h', Stand p l e R s m args below meth c T' (locs ++ [⟨a, i⟩]) cells slots ∧ T'.heap = h' ∧ Wr h h' a i (.long x) ∧ AF Z h' a .long n (fun k => if k = i then .long x else f k) ∧ ∀ target, Steps p.tables e below (T'.setTop { g with pc := g.pc + 1, stack := rest }) target → Steps p.tables e below (T.setTop g) target := by
  have F' := F
  obtain ⟨cl, A, r, u⟩ := F
  obtain ⟨T', h', X', e', W', st⟩ := RoadKit.stJ X hx hZ eT A (own_inb hj hi r) hg hs hd
  rw [own_tn hj] at X' W'
  exact ⟨T', h', X', e', W', F'.set W' hi, st⟩
end OwnAF
theorem own_lt {x y : Int32} {a b : Nat} (hx : x.toInt = (a : Int)) (hy : y.toInt = (b : Int)) : x < y ↔ a < b := by rw [Int32.lt_iff_toInt_lt, hx, hy]; omega
theorem own_eqn {x y : Int32} {a b : Nat} (hx : x.toInt = (a : Int)) (hy : y.toInt = (b : Int)) : x = y ↔ a = b := by rw [← Int32.toInt_inj, hx, hy]; omega
theorem own_add {x y : Int32} {a b : Nat} (hx : x.toInt = (a : Int)) (hy : y.toInt = (b : Int)) (h : a + b < 2147483648) : (x + y).toInt = ((a + b : Nat) : Int) := by
  have q1 := c_iadd x y
  have q2 := rng32 (x + y)
  omega
theorem own_iremM (x y : Int32) : x - (x / y) * y = x % y := by
  apply Int32.toInt_inj.mp
  have h1 := Int32.le_toInt (x % y)
  have h2 := Int32.toInt_lt (x % y)
  rw [Int32.toInt_sub, Int32.toInt_mul, Int32.toInt_div, Int.bmod_mul_bmod, Int.sub_bmod_bmod, Int.mul_comm (x.toInt.tdiv y.toInt), ← Int.tmod_def, ← Int32.toInt_mod]
  exact Int.bmod_eq_of_le_mul_two (by omega) (by omega)
theorem own_iremV {x y : Int32} {b : Nat} (hx : 0 ≤ x.toInt) (hy : y.toInt = (b : Int)) : (x - (x / y) * y).toInt = x.toInt % (b : Int) := by
  rw [own_iremM]; exact (c_irem x y b hy).1 hx
theorem own_irem {x y : Int32} {b : Nat} (hx : 0 ≤ x.toInt) (hy : y.toInt = (b : Int)) (hb : 0 < b) : ∃ r : Nat, r < b ∧ (x - (x / y) * y).toInt = (r : Int) := by
  have h := own_iremV hx hy
  have h1 := Int.emod_nonneg x.toInt (b := (b : Int)) (by omega)
  have h2 := Int.emod_lt_of_pos x.toInt (b := (b : Int)) (by omega)
  exact ⟨(x.toInt % (b : Int)).toNat, by omega, by omega⟩
theorem own_mask31 (x : Int32) : 0 ≤ (x &&& 2147483647).toInt := by
  have h := c_mask x 2147483647 31 (by decide) (by decide)
  rw [h]; exact Int.emod_nonneg _ (by decide)
theorem own_ne0 {y : Int32} {b : Nat} (hy : y.toInt = (b : Int)) (hb : 0 < b) : y ≠ 0 := fun h => by
  subst h
  have : (0 : Int32).toInt = 0 := rfl
  omega
/-- the reader: its class, its fields and its array -/
def RD (Z : State) (h : Heap) (r b : Addr) (f : Nat → Int32) (pos bits cnt : Int32) : Prop := Exa Z h r "com/example/dispatchbook/dispatchbook/amqp/WireReader" ∧ Fld Z h r "com/example/dispatchbook/dispatchbook/amqp/WireReader" "bytes" "[B" (.ref b) ∧ Fld Z h r "com/example/dispatchbook/dispatchbook/amqp/WireReader" "position" "I" (.int pos) ∧ Fld Z h r "com/example/dispatchbook/dispatchbook/amqp/WireReader" "bits" "I" (.int bits) ∧ Fld Z h r "com/example/dispatchbook/dispatchbook/amqp/WireReader" "bitCount" "I" (.int cnt) ∧ AF Z h b .byte 3 (fun k => .int (f k))
theorem own_req {pos : Int32} {i : Nat} (hp : pos.toInt = (i : Int)) (hi : i < 3) : ¬ ((3 : Int32) - pos < 1) := by
  have q : pos = 0 ∨ pos = 1 ∨ pos = 2 := by
    have : i = 0 ∨ i = 1 ∨ i = 2 := by omega
    rcases this with rfl | rfl | rfl
    · exact Or.inl (Int32.toInt_inj.mp hp)
    · exact Or.inr (Or.inl (Int32.toInt_inj.mp hp))
    · exact Or.inr (Or.inr (Int32.toInt_inj.mp hp))
  rcases q with rfl | rfl | rfl <;> decide
/-- the bit that bit() reads -/
def bitAt (x c : Int32) : Int32 := (x.toUInt32 >>> (c &&& 31).toUInt32).toInt32 &&& 1
theorem own_low (x : Int32) : (nar .byte (x.toInt8.toInt32)) &&& 255 = x &&& 255 := by
  apply Int32.toInt_inj.mp
  rw [c_mask _ 255 8 (by decide) (by decide), c_mask x 255 8 (by decide) (by decide)]
  have h1 := c_i2b x
  have h2 := c_i2b (x.toInt8.toInt32)
  have e : ((2 ^ 8 : Nat) : Int) = 256 := rfl
  show (x.toInt8.toInt32.toInt8.toInt32).toInt % ((2 ^ 8 : Nat) : Int) = _
  omega
theorem own_bit1 (x : Int32) (k : Fin 8) : (((x &&& 255).toUInt32 >>> ((Int32.ofNat k.val) &&& 31).toUInt32).toInt32 &&& 1) = ((x.toUInt32 >>> ((Int32.ofNat k.val) &&& 31).toUInt32).toInt32 &&& 1) := by
  have e1 : ∀ k : Fin 8, ((Int32.ofNat k.val) &&& 31).toUInt32.toBitVec.toNat = k.val := by decide
  apply Int32.toBitVec_inj.mp
  show ((x.toBitVec &&& 255#32) >>> ((((Int32.ofNat k.val) &&& 31).toUInt32.toBitVec) % 32#32)) &&& 1#32 = (x.toBitVec >>> ((((Int32.ofNat k.val) &&& 31).toUInt32.toBitVec) % 32#32)) &&& 1#32
  generalize x.toBitVec = y
  have e2 : ((((Int32.ofNat k.val) &&& 31).toUInt32.toBitVec) % 32#32).toNat = k.val := by
    rw [BitVec.toNat_umod, e1 k]
    have := k.isLt
    show k.val % 32 = k.val
    omega
  rw [BitVec.ushiftRight_eq', BitVec.ushiftRight_eq', e2]
  apply BitVec.eq_of_getLsbD_eq
  intro i hi
  simp only [BitVec.getLsbD_and, BitVec.getLsbD_ushiftRight]
  by_cases h : i = 0
  · subst h
    have : ∀ k : Fin 8, (255#32).getLsbD (k.val + 0) = true := by decide
    simp [this k]
    have := this k
    simp at this
    simp [this]
  · have : (1#32).getLsbD i = false := by
      have : ∀ k : Fin 32, k.val ≠ 0 → (1#32).getLsbD k.val = false := by decide
      exact this ⟨i, hi⟩ h
    simp [this]
theorem own_neA {Z : State} {h : Heap} {a b : Addr} {C : String} {a0 : Array Value} {k n : Nat} {ty : FieldType} {f : Nat → Value} (F : Exa Z h a C) (wi : (Jvm.Cond.instantiable C k).before a0 Z = true) (G : AF Z h b ty n f) : b ≠ a := by
  obtain ⟨c, A, -⟩ := G
  exact Ne.symm (ne_arr F wi A)
theorem d1_0 : decode prog_11_method_1_code 0 = .ok (.aload_n 0, 1) := by decide +kernel
theorem d1_1 : decode prog_11_method_1_code 1 = .ok (.invokespecial 1, 3) := by decide +kernel
theorem pd_0 : parseMethodDescriptor "()V" = some ⟨[], none⟩ := by decide +kernel
theorem d1_4 : decode prog_11_method_1_code 4 = .ok (.aload_n 0, 1) := by decide +kernel
theorem d1_5 : decode prog_11_method_1_code 5 = .ok (.bipush 8, 2) := by decide +kernel
theorem d1_7 : decode prog_11_method_1_code 7 = .ok (.putfield 7, 3) := by decide +kernel
theorem d1_10 : decode prog_11_method_1_code 10 = .ok (.aload_n 0, 1) := by decide +kernel
theorem d1_11 : decode prog_11_method_1_code 11 = .ok (.aload_n 1, 1) := by decide +kernel
theorem d1_12 : decode prog_11_method_1_code 12 = .ok (.putfield 13, 3) := by decide +kernel
theorem d1_15 : decode prog_11_method_1_code 15 = .ok (.return_, 1) := by decide +kernel
theorem pn_1 : plainName "com/example/dispatchbook/dispatchbook/amqp/WireReader" = true := by first | (simp [plainName, overriddenIn]; done) | decide +kernel
theorem ef_1 (m : MethodId) (x0 : Addr) (x1 : Addr) : entryFrame m #[(.ref x0), (.ref x1)] 2 = mkF m 0 #[rv x0, rv x1] [] := by first | (simp [entryFrame, mkF, argsToLocals, Value.category]; done) | rfl
def Q1 (Z : State) (r : Addr) (b : Addr) (f : Nat → Int32) (h0 : Heap) (n0 : Nat) (v : Option Value) (h : Heap) (L : List Loc) : Prop := v = none ∧ Fr n0 L ∧ Keep h0 h [r] ∧ RD Z h r b f 0 0 8
set_option maxRecDepth 65536 in
set_option maxHeartbeats 40000000 in
theorem rm1 (l : Launch) (Z : State) (a0 : Array Value) (hw : ∀ d ∈ tables_1, d.before a0 Z = true) (ws : List Jvm.Cond) (r : Addr) (b : Addr) (f : Nat → Int32) (h0 : Heap) (n0 : Nat) (Z0 : n0 ≤ h0.size) (E_r : Exa Z h0 r "com/example/dispatchbook/dispatchbook/amqp/WireReader") (F_by : Fld Z h0 r "com/example/dispatchbook/dispatchbook/amqp/WireReader" "bytes" "[B" .null) (F_po : Fld Z h0 r "com/example/dispatchbook/dispatchbook/amqp/WireReader" "position" "I" (.int (0 : Int32))) (F_bi : Fld Z h0 r "com/example/dispatchbook/dispatchbook/amqp/WireReader" "bits" "I" (.int (0 : Int32))) (F_bc : Fld Z h0 r "com/example/dispatchbook/dispatchbook/amqp/WireReader" "bitCount" "I" (.int (0 : Int32))) (V_b : AF Z h0 b .byte 3 (fun k => .int (f k))) (g_r : n0 ≤ r) :
    MetFree l (⟨"com/example/dispatchbook/dispatchbook/amqp/WireReader", "<init>", "([B)V"⟩ : MethodName) (head1 (Jvm.Cond.code (⟨"com/example/dispatchbook/dispatchbook/amqp/WireReader", "<init>", "([B)V"⟩ : MethodName) prog_11_method_1_code 2 none :: ws) ({ frames := 1, cells := 0, slots := 0, locals := 12 } : Room)) (fun a U => a = #[(.ref r), (.ref b)] ∧ Z.Warmed39 U.vm ∧ U.heap = h0) (fun _ _ _ _ _ => True) (fun _ U o U' => ∃ v L, o = .returned v ∧ Q1 Z r b f h0 n0 v U'.heap L ∧ FrameEnd U o U' L ({ frames := 1, cells := 0, slots := 0, locals := 12 } : Room).cells ({ frames := 1, cells := 0, slots := 0, locals := 12 } : Room).slots) := by
  refine MetFree.of_bodySF (plainFor_of_name pn_1) hisR ?_
  intro p e s m args below meth c s₁ Bd hml0 hP hK
  obtain ⟨rfl, hZ, hh⟩ := hP
  have hx := Bd.exec
  have hby := Bd.bytes
  have hml : c.maxLocals = 2 := hml0
  have hown : s.vm.findClass "com/example/dispatchbook/dispatchbook/amqp/WireReader" = some m.cls := findClass_of_methodNamed Bd.named
  have hnm := (name_of_methodNamed Bd.named Bd.method).1
  have X0 : Stand p l e ({ frames := 1, cells := 0, slots := 0, locals := 12 } : Room) s m #[(.ref r), (.ref b)] below meth c s₁ [] 0 0 := Stand.of_body Bd
  have e0 : s₁.heap = h0 := by rw [← hh, Bd.state]; rfl
  have N0 := Fr.nil n0
  show Ends p.tables e below (fun (s₂ : State) (o : Outcome) => ∃ v L, o = .returned v ∧ (Q1 Z r b f h0 n0) v s₂.heap L ∧ FrameEnd s o s₂ L ({ frames := 1, cells := 0, slots := 0, locals := 12 } : Room).cells ({ frames := 1, cells := 0, slots := 0, locals := 12 } : Room).slots) (s₁.setTop (entryFrame m #[(.ref r), (.ref b)] 2))
  refine Ends.any fun G hG => ?_
  refine Ends.go (fun t k => castTop (ef_1 m r b) k) ?_
  show Ends p.tables e below G (s₁.setTop (mkF m 0 #[rv r, rv b] []))
  have ne_b : b ≠ r := own_neA E_r (hw _ (List.mem_of_getElem? (i := 2) rfl)) V_b
  have K0 := Keep.refl h0 [r]
  refine Ends.go (fun _ => XS.aloadN X0.here hx rfl (hb hby d1_0) rfl rfl) ?_
  show Ends p.tables e below G (s₁.setTop (mkF m 1 #[rv r, rv b] [(.ref r)]))
  obtain ⟨T1, X1, e1, st1⟩ := initO X0 hx hZ hown (hw _ (List.mem_of_getElem? (i := 7) rfl)) (hw _ (List.mem_of_getElem? (i := 8) rfl)) (hw _ (List.mem_of_getElem? (i := 9) rfl)) e0 (g := (mkF m 1 #[rv r, rv b] [(.ref r)])) rfl (by rw [hml]; rfl) rfl (hb hby d1_1) (by decide) (W := 0) (by show 2 * 0 + _ ≤ _; exact Nat.le_of_eq rfl) (by decide)
  refine Ends.go (fun _ => st1 _) ?_
  show Ends p.tables e below G (T1.setTop (mkF m 4 #[rv r, rv b] []))
  refine Ends.go (fun _ => XS.aloadN X1.here hx rfl (hb hby d1_4) rfl rfl) ?_
  show Ends p.tables e below G (T1.setTop (mkF m 5 #[rv r, rv b] [(.ref r)]))
  refine Ends.go (fun _ => XS.bipush X1.here hx rfl (hb hby d1_5)) ?_
  show Ends p.tables e below G (T1.setTop (mkF m 7 #[rv r, rv b] [(.int (8 : Int32)), (.ref r)]))
  obtain ⟨T2, h2, X2, e2, W2, st2⟩ := putF X1 hx hZ hown (host := "") (Or.inl (hw _ (List.mem_of_getElem? (i := 10) rfl))) Via.refl e1 F_bc E_r (Or.inl (hw _ (List.mem_of_getElem? (i := 11) rfl))) (hw _ (List.mem_of_getElem? (i := 2) rfl)) (ty := .int) (by decide) rfl rfl (g := (mkF m 7 #[rv r, rv b] [(.int (8 : Int32)), (.ref r)])) rfl rfl (hb hby d1_7)
  have f2_E_r := E_r.wr W2
  have f2_F_r_bytes := F_by.other W2 (Or.inr (slot_ne (Or.inr (hw _ (List.mem_of_getElem? (i := 13) rfl))) (Or.inl (hw _ (List.mem_of_getElem? (i := 11) rfl))) (by decide) (t := (.array .byte)) (t' := .int) (by decide) (by decide)))
  have f2_F_r_position := F_po.other W2 (Or.inr (slot_ne (Or.inl (hw _ (List.mem_of_getElem? (i := 29) rfl))) (Or.inl (hw _ (List.mem_of_getElem? (i := 11) rfl))) (by decide) (t := .int) (t' := .int) (by decide) (by decide)))
  have f2_F_r_bits := F_bi.other W2 (Or.inr (slot_ne (Or.inl (hw _ (List.mem_of_getElem? (i := 31) rfl))) (Or.inl (hw _ (List.mem_of_getElem? (i := 11) rfl))) (by decide) (t := .int) (t' := .int) (by decide) (by decide)))
  have f2_F_r_bitCount := F_bc.same W2
  have f2_V_b := AF.other V_b W2 ne_b
  have sz2 := Nat.le_trans Z0 (Nat.le_of_eq W2.size.symm)
  have K2 := Keep.wr K0 W2 (Or.inl (List.mem_of_getElem? (i := 0) rfl))
  have N2 := Fr.snoc X2 N0 g_r
  refine Ends.go (fun _ => st2 _) ?_
  show Ends p.tables e below G (T2.setTop (mkF m 10 #[rv r, rv b] []))
  refine Ends.go (fun _ => XS.aloadN X2.here hx rfl (hb hby d1_10) rfl rfl) ?_
  show Ends p.tables e below G (T2.setTop (mkF m 11 #[rv r, rv b] [(.ref r)]))
  refine Ends.go (fun _ => XS.aloadN X2.here hx rfl (hb hby d1_11) rfl rfl) ?_
  show Ends p.tables e below G (T2.setTop (mkF m 12 #[rv r, rv b] [(.ref b), (.ref r)]))
  obtain ⟨T3, h3, X3, e3, W3, st3⟩ := putF X2 hx hZ hown (host := "") (Or.inl (hw _ (List.mem_of_getElem? (i := 12) rfl))) Via.refl e2 f2_F_r_bytes f2_E_r (Or.inr ⟨(hw _ (List.mem_of_getElem? (i := 13) rfl)), rfl, hnm⟩) (hw _ (List.mem_of_getElem? (i := 2) rfl)) (ty := (.array .byte)) (by decide) rfl rfl (g := (mkF m 12 #[rv r, rv b] [(.ref b), (.ref r)])) rfl rfl (hb hby d1_12)
  have f3_E_r := f2_E_r.wr W3
  have f3_F_r_bytes := f2_F_r_bytes.same W3
  have f3_F_r_position := f2_F_r_position.other W3 (Or.inr (slot_ne (Or.inl (hw _ (List.mem_of_getElem? (i := 29) rfl))) (Or.inr (hw _ (List.mem_of_getElem? (i := 13) rfl))) (by decide) (t := .int) (t' := (.array .byte)) (by decide) (by decide)))
  have f3_F_r_bits := f2_F_r_bits.other W3 (Or.inr (slot_ne (Or.inl (hw _ (List.mem_of_getElem? (i := 31) rfl))) (Or.inr (hw _ (List.mem_of_getElem? (i := 13) rfl))) (by decide) (t := .int) (t' := (.array .byte)) (by decide) (by decide)))
  have f3_F_r_bitCount := f2_F_r_bitCount.other W3 (Or.inr (slot_ne (Or.inl (hw _ (List.mem_of_getElem? (i := 11) rfl))) (Or.inr (hw _ (List.mem_of_getElem? (i := 13) rfl))) (by decide) (t := .int) (t' := (.array .byte)) (by decide) (by decide)))
  have f3_V_b := AF.other f2_V_b W3 ne_b
  have sz3 := Nat.le_trans sz2 (Nat.le_of_eq W3.size.symm)
  have K3 := Keep.wr K2 W3 (Or.inl (List.mem_of_getElem? (i := 0) rfl))
  have N3 := Fr.snoc X3 N2 g_r
  refine Ends.go (fun _ => st3 _) ?_
  show Ends p.tables e below G (T3.setTop (mkF m 15 #[rv r, rv b] []))
  refine own_finN X3 hx Bd.returns Bd.notSynchronized (hb hby d1_15) (Q := (Q1 Z r b f h0 n0)) hG (by decide) (by decide) ?_
  show (Q1 Z r b f h0 n0) _ T3.heap _
  rw [e3]
  exact ⟨rfl, N3, K3, ⟨f3_E_r, f3_F_r_bytes, f3_F_r_position, f3_F_r_bits, f3_F_r_bitCount, f3_V_b⟩⟩
theorem d5_0 : decode prog_11_method_11_code 0 = .ok (.aload_n 0, 1) := by decide +kernel
theorem d5_1 : decode prog_11_method_11_code 1 = .ok (.getfield 13, 3) := by decide +kernel
theorem d5_4 : decode prog_11_method_11_code 4 = .ok (.arraylength, 1) := by decide +kernel
theorem d5_5 : decode prog_11_method_11_code 5 = .ok (.aload_n 0, 1) := by decide +kernel
theorem d5_6 : decode prog_11_method_11_code 6 = .ok (.getfield 21, 3) := by decide +kernel
theorem d5_9 : decode prog_11_method_11_code 9 = .ok (.isub, 1) := by decide +kernel
theorem d5_10 : decode prog_11_method_11_code 10 = .ok (.iload_n 1, 1) := by decide +kernel
theorem d5_11 : decode prog_11_method_11_code 11 = .ok (.if_icmp .ge 17, 3) := by decide +kernel
theorem d5_14 : decode prog_11_method_11_code 14 = .ok (.new 50, 3) := by decide +kernel
theorem d5_17 : decode prog_11_method_11_code 17 = .ok (.dup, 1) := by decide +kernel
theorem d5_18 : decode prog_11_method_11_code 18 = .ok (.iload_n 1, 1) := by decide +kernel
theorem d5_24 : decode prog_11_method_11_code 24 = .ok (.invokespecial 56, 3) := by decide +kernel
theorem d5_27 : decode prog_11_method_11_code 27 = .ok (.athrow, 1) := by decide +kernel
theorem d5_28 : decode prog_11_method_11_code 28 = .ok (.return_, 1) := by decide +kernel
theorem pn_5 : plainName "com/example/dispatchbook/dispatchbook/amqp/WireReader" = true := by first | (simp [plainName, overriddenIn]; done) | decide +kernel
theorem ef_5 (m : MethodId) (x0 : Addr) (x1 : Int32) : entryFrame m #[(.ref x0), (.int x1)] 2 = mkF m 0 #[rv x0, iv x1] [] := by first | (simp [entryFrame, mkF, argsToLocals, Value.category]; done) | rfl
def Q5 (Z : State) (r : Addr) (one : Int32) (b : Addr) (f : Nat → Int32) (pos : Int32) (bits : Int32) (cnt : Int32) (h0 : Heap) (n0 : Nat) (v : Option Value) (h : Heap) (L : List Loc) : Prop := v = none ∧ Fr n0 L ∧ h = h0
set_option maxRecDepth 65536 in
set_option maxHeartbeats 40000000 in
theorem rm5 (l : Launch) (Z : State) (a0 : Array Value) (hw : ∀ d ∈ tables_1, d.before a0 Z = true) (ws : List Jvm.Cond) (r : Addr) (one : Int32) (b : Addr) (f : Nat → Int32) (pos : Int32) (bits : Int32) (cnt : Int32) (h0 : Heap) (n0 : Nat) (Z0 : n0 ≤ h0.size) (hR : RD Z h0 r b f pos bits cnt) (hc : ¬ ((3 : Int32) - pos < one)) :
    MetFree l (⟨"com/example/dispatchbook/dispatchbook/amqp/WireReader", "require", "(I)V"⟩ : MethodName) (head1 (Jvm.Cond.code (⟨"com/example/dispatchbook/dispatchbook/amqp/WireReader", "require", "(I)V"⟩ : MethodName) prog_11_method_11_code 2 none :: ws) ({ frames := 0, cells := 0, slots := 0, locals := 0 } : Room)) (fun a U => a = #[(.ref r), (.int one)] ∧ Z.Warmed39 U.vm ∧ U.heap = h0) (fun _ _ _ _ _ => True) (fun _ U o U' => ∃ v L, o = .returned v ∧ Q5 Z r one b f pos bits cnt h0 n0 v U'.heap L ∧ FrameEnd U o U' L ({ frames := 0, cells := 0, slots := 0, locals := 0 } : Room).cells ({ frames := 0, cells := 0, slots := 0, locals := 0 } : Room).slots) := by
  refine MetFree.of_bodySF (plainFor_of_name pn_5) hisR ?_
  intro p e s m args below meth c s₁ Bd hml0 hP hK
  obtain ⟨rfl, hZ, hh⟩ := hP
  have hx := Bd.exec
  have hby := Bd.bytes
  have hml : c.maxLocals = 2 := hml0
  have hown : s.vm.findClass "com/example/dispatchbook/dispatchbook/amqp/WireReader" = some m.cls := findClass_of_methodNamed Bd.named
  have hnm := (name_of_methodNamed Bd.named Bd.method).1
  have X0 : Stand p l e ({ frames := 0, cells := 0, slots := 0, locals := 0 } : Room) s m #[(.ref r), (.int one)] below meth c s₁ [] 0 0 := Stand.of_body Bd
  have e0 : s₁.heap = h0 := by rw [← hh, Bd.state]; rfl
  have N0 := Fr.nil n0
  show Ends p.tables e below (fun (s₂ : State) (o : Outcome) => ∃ v L, o = .returned v ∧ (Q5 Z r one b f pos bits cnt h0 n0) v s₂.heap L ∧ FrameEnd s o s₂ L ({ frames := 0, cells := 0, slots := 0, locals := 0 } : Room).cells ({ frames := 0, cells := 0, slots := 0, locals := 0 } : Room).slots) (s₁.setTop (entryFrame m #[(.ref r), (.int one)] 2))
  refine Ends.any fun G hG => ?_
  refine Ends.go (fun t k => castTop (ef_5 m r one) k) ?_
  show Ends p.tables e below G (s₁.setTop (mkF m 0 #[rv r, iv one] []))
  obtain ⟨E_r, F_by, F_po, F_bi, F_bc, V_b⟩ := hR
  have ne_b : b ≠ r := own_neA E_r (hw _ (List.mem_of_getElem? (i := 2) rfl)) V_b
  refine Ends.go (fun _ => XS.aloadN X0.here hx rfl (hb hby d5_0) rfl rfl) ?_
  show Ends p.tables e below G (s₁.setTop (mkF m 1 #[rv r, iv one] [(.ref r)]))
  obtain ⟨T1, X1, e1, st1⟩ := getF X0 hx hZ hown (host := "") (Or.inl (hw _ (List.mem_of_getElem? (i := 12) rfl))) Via.refl e0 F_by (g := (mkF m 1 #[rv r, iv one] [(.ref r)])) rfl rfl (hb hby d5_1)
  refine Ends.go (fun _ => st1 _) ?_
  show Ends p.tables e below G (T1.setTop (mkF m 4 #[rv r, iv one] [(.ref b)]))
  refine Ends.go (fun _ => AF.len V_b X1 hx hZ e1 (z := (3 : Int32)) rfl (g := (mkF m 4 #[rv r, iv one] [(.ref b)])) rfl rfl (hb hby d5_4) _) ?_
  show Ends p.tables e below G (T1.setTop (mkF m 5 #[rv r, iv one] [(.int (3 : Int32))]))
  refine Ends.go (fun _ => XS.aloadN X1.here hx rfl (hb hby d5_5) rfl rfl) ?_
  show Ends p.tables e below G (T1.setTop (mkF m 6 #[rv r, iv one] [(.ref r), (.int (3 : Int32))]))
  obtain ⟨T2, X2, e2, st2⟩ := getF X1 hx hZ hown (host := "") (Or.inl (hw _ (List.mem_of_getElem? (i := 28) rfl))) Via.refl e1 F_po (g := (mkF m 6 #[rv r, iv one] [(.ref r), (.int (3 : Int32))])) rfl rfl (hb hby d5_6)
  refine Ends.go (fun _ => st2 _) ?_
  show Ends p.tables e below G (T2.setTop (mkF m 9 #[rv r, iv one] [(.int pos), (.int (3 : Int32))]))
  refine Ends.go (fun _ => XS.isub X2.here hx rfl (hb hby d5_9) rfl) ?_
  show Ends p.tables e below G (T2.setTop (mkF m 10 #[rv r, iv one] [(.int ((3 : Int32) - pos))]))
  refine Ends.go (fun _ => XS.iloadN X2.here hx rfl (hb hby d5_10) rfl) ?_
  show Ends p.tables e below G (T2.setTop (mkF m 11 #[rv r, iv one] [(.int one), (.int ((3 : Int32) - pos))]))
  refine Ends.go (fun _ => XS.icmpYes X2.here hx rfl (pc0 := 11) (pc' := 28) rfl (hb hby d5_11) rfl (flt (hc : ¬ (((3 : Int32) - pos) < one))).2.1 (by decide) (by decide)) ?_
  show Ends p.tables e below G (T2.setTop (mkF m 28 #[rv r, iv one] []))
  refine own_finN X2 hx Bd.returns Bd.notSynchronized (hb hby d5_28) (Q := (Q5 Z r one b f pos bits cnt h0 n0)) hG (by decide) (by decide) ?_
  show (Q5 Z r one b f pos bits cnt h0 n0) _ T2.heap _
  rw [e2]
  exact ⟨rfl, N0, rfl⟩
theorem d4_0 : decode prog_11_method_2_code 0 = .ok (.aload_n 0, 1) := by decide +kernel
theorem d4_1 : decode prog_11_method_2_code 1 = .ok (.bipush 8, 2) := by decide +kernel
theorem d4_3 : decode prog_11_method_2_code 3 = .ok (.putfield 7, 3) := by decide +kernel
theorem d4_6 : decode prog_11_method_2_code 6 = .ok (.aload_n 0, 1) := by decide +kernel
theorem d4_7 : decode prog_11_method_2_code 7 = .ok (.iconst 1, 1) := by decide +kernel
theorem d4_8 : decode prog_11_method_2_code 8 = .ok (.invokevirtual 17, 3) := by decide +kernel
theorem pd_1 : parseMethodDescriptor "(I)V" = some ⟨[.int], none⟩ := by decide +kernel
theorem d4_11 : decode prog_11_method_2_code 11 = .ok (.aload_n 0, 1) := by decide +kernel
theorem d4_12 : decode prog_11_method_2_code 12 = .ok (.getfield 13, 3) := by decide +kernel
theorem d4_15 : decode prog_11_method_2_code 15 = .ok (.aload_n 0, 1) := by decide +kernel
theorem d4_16 : decode prog_11_method_2_code 16 = .ok (.dup, 1) := by decide +kernel
theorem d4_17 : decode prog_11_method_2_code 17 = .ok (.getfield 21, 3) := by decide +kernel
theorem d4_20 : decode prog_11_method_2_code 20 = .ok (.dup_x1, 1) := by decide +kernel
theorem d4_21 : decode prog_11_method_2_code 21 = .ok (.iconst 1, 1) := by decide +kernel
theorem d4_22 : decode prog_11_method_2_code 22 = .ok (.iadd, 1) := by decide +kernel
theorem d4_23 : decode prog_11_method_2_code 23 = .ok (.putfield 21, 3) := by decide +kernel
theorem d4_26 : decode prog_11_method_2_code 26 = .ok (.baload, 1) := by decide +kernel
theorem d4_27 : decode prog_11_method_2_code 27 = .ok (.sipush 255, 3) := by decide +kernel
theorem d4_30 : decode prog_11_method_2_code 30 = .ok (.iand, 1) := by decide +kernel
theorem d4_31 : decode prog_11_method_2_code 31 = .ok (.ireturn, 1) := by decide +kernel
theorem pn_4 : plainName "com/example/dispatchbook/dispatchbook/amqp/WireReader" = true := by first | (simp [plainName, overriddenIn]; done) | decide +kernel
theorem ef_4 (m : MethodId) (x0 : Addr) : entryFrame m #[(.ref x0)] 1 = mkF m 0 #[rv x0] [] := by first | (simp [entryFrame, mkF, argsToLocals, Value.category]; done) | rfl
def Q4 (Z : State) (r : Addr) (b : Addr) (f : Nat → Int32) (pos : Int32) (bits : Int32) (cnt : Int32) (i : Nat) (h0 : Heap) (n0 : Nat) (v : Option Value) (h : Heap) (L : List Loc) : Prop := v = some (.int (f i &&& 255)) ∧ Fr n0 L ∧ Keep h0 h [r] ∧ RD Z h r b f (pos + 1) bits 8
set_option maxRecDepth 65536 in
set_option maxHeartbeats 40000000 in
theorem rm4 (l : Launch) (Z : State) (a0 : Array Value) (hw : ∀ d ∈ tables_1, d.before a0 Z = true) (ws : List Jvm.Cond) (r : Addr) (b : Addr) (f : Nat → Int32) (pos : Int32) (bits : Int32) (cnt : Int32) (i : Nat) (h0 : Heap) (n0 : Nat) (Z0 : n0 ≤ h0.size) (hR : RD Z h0 r b f pos bits cnt) (g_r : n0 ≤ r) (hp : pos.toInt = (i : Int)) (hi : i < 3) :
    MetFree l (⟨"com/example/dispatchbook/dispatchbook/amqp/WireReader", "octet", "()I"⟩ : MethodName) (head1 (Jvm.Cond.code (⟨"com/example/dispatchbook/dispatchbook/amqp/WireReader", "octet", "()I"⟩ : MethodName) prog_11_method_2_code 1 (some .int) :: ws) ({ frames := 1, cells := 0, slots := 0, locals := 13 } : Room)) (fun a U => a = #[(.ref r)] ∧ Z.Warmed39 U.vm ∧ U.heap = h0) (fun _ _ _ _ _ => True) (fun _ U o U' => ∃ v L, o = .returned v ∧ Q4 Z r b f pos bits cnt i h0 n0 v U'.heap L ∧ FrameEnd U o U' L ({ frames := 1, cells := 0, slots := 0, locals := 13 } : Room).cells ({ frames := 1, cells := 0, slots := 0, locals := 13 } : Room).slots) := by
  refine MetFree.of_bodySF (plainFor_of_name pn_4) hisR ?_
  intro p e s m args below meth c s₁ Bd hml0 hP hK
  obtain ⟨rfl, hZ, hh⟩ := hP
  have hx := Bd.exec
  have hby := Bd.bytes
  have hml : c.maxLocals = 1 := hml0
  have hown : s.vm.findClass "com/example/dispatchbook/dispatchbook/amqp/WireReader" = some m.cls := findClass_of_methodNamed Bd.named
  have hnm := (name_of_methodNamed Bd.named Bd.method).1
  have X0 : Stand p l e ({ frames := 1, cells := 0, slots := 0, locals := 13 } : Room) s m #[(.ref r)] below meth c s₁ [] 0 0 := Stand.of_body Bd
  have e0 : s₁.heap = h0 := by rw [← hh, Bd.state]; rfl
  have N0 := Fr.nil n0
  show Ends p.tables e below (fun (s₂ : State) (o : Outcome) => ∃ v L, o = .returned v ∧ (Q4 Z r b f pos bits cnt i h0 n0) v s₂.heap L ∧ FrameEnd s o s₂ L ({ frames := 1, cells := 0, slots := 0, locals := 13 } : Room).cells ({ frames := 1, cells := 0, slots := 0, locals := 13 } : Room).slots) (s₁.setTop (entryFrame m #[(.ref r)] 1))
  refine Ends.any fun G hG => ?_
  refine Ends.go (fun t k => castTop (ef_4 m r) k) ?_
  show Ends p.tables e below G (s₁.setTop (mkF m 0 #[rv r] []))
  obtain ⟨E_r, F_by, F_po, F_bi, F_bc, V_b⟩ := hR
  have ne_b : b ≠ r := own_neA E_r (hw _ (List.mem_of_getElem? (i := 2) rfl)) V_b
  have K0 := Keep.refl h0 [r]
  refine Ends.go (fun _ => XS.aloadN X0.here hx rfl (hb hby d4_0) rfl rfl) ?_
  show Ends p.tables e below G (s₁.setTop (mkF m 1 #[rv r] [(.ref r)]))
  refine Ends.go (fun _ => XS.bipush X0.here hx rfl (hb hby d4_1)) ?_
  show Ends p.tables e below G (s₁.setTop (mkF m 3 #[rv r] [(.int (8 : Int32)), (.ref r)]))
  obtain ⟨T1, h1, X1, e1, W1, st1⟩ := putF X0 hx hZ hown (host := "") (Or.inl (hw _ (List.mem_of_getElem? (i := 10) rfl))) Via.refl e0 F_bc E_r (Or.inl (hw _ (List.mem_of_getElem? (i := 11) rfl))) (hw _ (List.mem_of_getElem? (i := 2) rfl)) (ty := .int) (by decide) rfl rfl (g := (mkF m 3 #[rv r] [(.int (8 : Int32)), (.ref r)])) rfl rfl (hb hby d4_3)
  have f1_E_r := E_r.wr W1
  have f1_F_r_bytes := F_by.other W1 (Or.inr (slot_ne (Or.inr (hw _ (List.mem_of_getElem? (i := 13) rfl))) (Or.inl (hw _ (List.mem_of_getElem? (i := 11) rfl))) (by decide) (t := (.array .byte)) (t' := .int) (by decide) (by decide)))
  have f1_F_r_position := F_po.other W1 (Or.inr (slot_ne (Or.inl (hw _ (List.mem_of_getElem? (i := 29) rfl))) (Or.inl (hw _ (List.mem_of_getElem? (i := 11) rfl))) (by decide) (t := .int) (t' := .int) (by decide) (by decide)))
  have f1_F_r_bits := F_bi.other W1 (Or.inr (slot_ne (Or.inl (hw _ (List.mem_of_getElem? (i := 31) rfl))) (Or.inl (hw _ (List.mem_of_getElem? (i := 11) rfl))) (by decide) (t := .int) (t' := .int) (by decide) (by decide)))
  have f1_F_r_bitCount := F_bc.same W1
  have f1_V_b := AF.other V_b W1 ne_b
  have sz1 := Nat.le_trans Z0 (Nat.le_of_eq W1.size.symm)
  have K1 := Keep.wr K0 W1 (Or.inl (List.mem_of_getElem? (i := 0) rfl))
  have N1 := Fr.snoc X1 N0 g_r
  refine Ends.go (fun _ => st1 _) ?_
  show Ends p.tables e below G (T1.setTop (mkF m 6 #[rv r] []))
  refine Ends.go (fun _ => XS.aloadN X1.here hx rfl (hb hby d4_6) rfl rfl) ?_
  show Ends p.tables e below G (T1.setTop (mkF m 7 #[rv r] [(.ref r)]))
  refine Ends.go (fun _ => XS.iconst X1.here hx rfl (hb hby d4_7)) ?_
  show Ends p.tables e below G (T1.setTop (mkF m 8 #[rv r] [(.int (1 : Int32)), (.ref r)]))
  obtain ⟨cq2, q2, q2'⟩ := f1_E_r.cell
  obtain ⟨_, _, ⟨T2, L2, k2, n2⟩, -, X2, ⟨Lc2, hQ2, l2, y2, z2⟩, st2⟩ := X1.privateBack hx (y := (⟨"com/example/dispatchbook/dispatchbook/amqp/WireReader", "require", "(I)V"⟩ : MethodName)) hown (mvT hZ (hw _ (List.mem_of_getElem? (i := 24) rfl))) (mvT hZ (hw _ (List.mem_of_getElem? (i := 25) rfl))) (own_selP (a1 := #[]) (mvT hZ (hw _ (List.mem_of_getElem? (i := 2) rfl))) (Cond.privateMethod_at (mvP hZ (hw _ (List.mem_of_getElem? (i := 26) rfl)) (args := #[]))) (mvT hZ (hw _ (List.mem_of_getElem? (i := 25) rfl))) (by decide)) (Cond.privateMethod_at (mvP hZ (hw _ (List.mem_of_getElem? (i := 26) rfl)) (args := #[]))) (mvT hZ (hw _ (List.mem_of_getElem? (i := 27) rfl))) (by decide) (backOf (W := 0) (rm5 l Z a0 hw [] r (1 : Int32) b f pos bits 8 h1 n0 sz1 ⟨f1_E_r, f1_F_r_bytes, f1_F_r_position, f1_F_r_bits, f1_F_r_bitCount, f1_V_b⟩ (own_req hp hi)) hZ (hw _ (List.mem_of_getElem? (i := 27) rfl)) (hw _ (List.mem_of_getElem? (i := 3) rfl)) (by decide) (by decide)) (g := (mkF m 8 #[rv r] [(.int (1 : Int32)), (.ref r)])) rfl (by rw [hml]; rfl) (Steps.refl _) (a := r) (by rw [e1]; exact q2) q2' (argsL := [(.int (1 : Int32))]) (rest := []) (lenOf pd_1 rfl) rfl (by show 2 * 0 + _ ≤ _; exact Nat.le_of_eq rfl) (hb hby d4_8) (fun _ _ => ⟨rfl, e1, (by decide : 0 + 0 ≤ _), (by decide : 0 + 0 ≤ _)⟩)
  dsimp only [Pt.U, Pt.locs, Pt.cells, Pt.slots] at X2 l2 y2 z2 st2 hQ2
  subst l2 y2 z2
  obtain ⟨rfl, N2q, e2⟩ := hQ2
  have N2 := Fr.app N1 N2q
  refine Ends.go (fun _ => st2.trans) ?_
  show Ends p.tables e below G (T2.setTop (mkF m 11 #[rv r] []))
  refine Ends.go (fun _ => XS.aloadN X2.here hx rfl (hb hby d4_11) rfl rfl) ?_
  show Ends p.tables e below G (T2.setTop (mkF m 12 #[rv r] [(.ref r)]))
  obtain ⟨T3, X3, e3, st3⟩ := getF X2 hx hZ hown (host := "") (Or.inl (hw _ (List.mem_of_getElem? (i := 12) rfl))) Via.refl e2 f1_F_r_bytes (g := (mkF m 12 #[rv r] [(.ref r)])) rfl rfl (hb hby d4_12)
  refine Ends.go (fun _ => st3 _) ?_
  show Ends p.tables e below G (T3.setTop (mkF m 15 #[rv r] [(.ref b)]))
  refine Ends.go (fun _ => XS.aloadN X3.here hx rfl (hb hby d4_15) rfl rfl) ?_
  show Ends p.tables e below G (T3.setTop (mkF m 16 #[rv r] [(.ref r), (.ref b)]))
  refine Ends.go (fun _ => XS.dup X3.here hx rfl (hb hby d4_16) rfl rfl) ?_
  show Ends p.tables e below G (T3.setTop (mkF m 17 #[rv r] [(.ref r), (.ref r), (.ref b)]))
  obtain ⟨T4, X4, e4, st4⟩ := getF X3 hx hZ hown (host := "") (Or.inl (hw _ (List.mem_of_getElem? (i := 28) rfl))) Via.refl e3 f1_F_r_position (g := (mkF m 17 #[rv r] [(.ref r), (.ref r), (.ref b)])) rfl rfl (hb hby d4_17)
  refine Ends.go (fun _ => st4 _) ?_
  show Ends p.tables e below G (T4.setTop (mkF m 20 #[rv r] [(.int pos), (.ref r), (.ref b)]))
  refine Ends.go (fun _ => XS.dupX1 X4.here hx rfl (hb hby d4_20) rfl rfl rfl) ?_
  show Ends p.tables e below G (T4.setTop (mkF m 21 #[rv r] [(.int pos), (.ref r), (.int pos), (.ref b)]))
  refine Ends.go (fun _ => XS.iconst X4.here hx rfl (hb hby d4_21)) ?_
  show Ends p.tables e below G (T4.setTop (mkF m 22 #[rv r] [(.int (1 : Int32)), (.int pos), (.ref r), (.int pos), (.ref b)]))
  refine Ends.go (fun _ => XS.iadd X4.here hx rfl (hb hby d4_22) rfl) ?_
  show Ends p.tables e below G (T4.setTop (mkF m 23 #[rv r] [(.int (pos + (1 : Int32))), (.ref r), (.int pos), (.ref b)]))
  obtain ⟨T5, h5, X5, e5, W5, st5⟩ := putF X4 hx hZ hown (host := "") (Or.inl (hw _ (List.mem_of_getElem? (i := 28) rfl))) Via.refl e4 f1_F_r_position f1_E_r (Or.inl (hw _ (List.mem_of_getElem? (i := 29) rfl))) (hw _ (List.mem_of_getElem? (i := 2) rfl)) (ty := .int) (by decide) rfl rfl (g := (mkF m 23 #[rv r] [(.int (pos + (1 : Int32))), (.ref r), (.int pos), (.ref b)])) rfl rfl (hb hby d4_23)
  have f5_E_r := f1_E_r.wr W5
  have f5_F_r_bytes := f1_F_r_bytes.other W5 (Or.inr (slot_ne (Or.inr (hw _ (List.mem_of_getElem? (i := 13) rfl))) (Or.inl (hw _ (List.mem_of_getElem? (i := 29) rfl))) (by decide) (t := (.array .byte)) (t' := .int) (by decide) (by decide)))
  have f5_F_r_position := f1_F_r_position.same W5
  have f5_F_r_bits := f1_F_r_bits.other W5 (Or.inr (slot_ne (Or.inl (hw _ (List.mem_of_getElem? (i := 31) rfl))) (Or.inl (hw _ (List.mem_of_getElem? (i := 29) rfl))) (by decide) (t := .int) (t' := .int) (by decide) (by decide)))
  have f5_F_r_bitCount := f1_F_r_bitCount.other W5 (Or.inr (slot_ne (Or.inl (hw _ (List.mem_of_getElem? (i := 11) rfl))) (Or.inl (hw _ (List.mem_of_getElem? (i := 29) rfl))) (by decide) (t := .int) (t' := .int) (by decide) (by decide)))
  have f5_V_b := AF.other f1_V_b W5 ne_b
  have sz5 := Nat.le_trans sz1 (Nat.le_of_eq W5.size.symm)
  have K5 := Keep.wr K1 W5 (Or.inl (List.mem_of_getElem? (i := 0) rfl))
  have N5 := Fr.snoc X5 N2 g_r
  refine Ends.go (fun _ => st5 _) ?_
  show Ends p.tables e below G (T5.setTop (mkF m 26 #[rv r] [(.int pos), (.ref b)]))
  refine Ends.go (fun _ => AF.ldB f5_V_b X5 hx hZ e5 (j := pos) (i := i) hp hi (v := (.int (f i))) rfl (g := (mkF m 26 #[rv r] [(.int pos), (.ref b)])) rfl rfl (hb hby d4_26) _) ?_
  show Ends p.tables e below G (T5.setTop (mkF m 27 #[rv r] [(.int (f i))]))
  refine Ends.go (fun _ => XS.sipush X5.here hx rfl (hb hby d4_27)) ?_
  show Ends p.tables e below G (T5.setTop (mkF m 30 #[rv r] [(.int (255 : Int32)), (.int (f i))]))
  refine Ends.go (fun _ => XS.iand X5.here hx rfl (hb hby d4_30) rfl) ?_
  show Ends p.tables e below G (T5.setTop (mkF m 31 #[rv r] [(.int ((f i) &&& (255 : Int32)))]))
  refine own_finI X5 hx Bd.returns Bd.notSynchronized (hb hby d4_31) (Q := (Q4 Z r b f pos bits cnt i h0 n0)) hG (by decide) (by decide) ?_
  show (Q4 Z r b f pos bits cnt i h0 n0) _ T5.heap _
  rw [e5]
  exact ⟨rfl, N5, K5, ⟨f5_E_r, f5_F_r_bytes, f5_F_r_position, f5_F_r_bits, f5_F_r_bitCount, f5_V_b⟩⟩
theorem d3_0 : decode prog_11_method_8_code 0 = .ok (.aload_n 0, 1) := by decide +kernel
theorem d3_1 : decode prog_11_method_8_code 1 = .ok (.getfield 7, 3) := by decide +kernel
theorem d3_4 : decode prog_11_method_8_code 4 = .ok (.bipush 8, 2) := by decide +kernel
theorem d3_6 : decode prog_11_method_8_code 6 = .ok (.if_icmp .ne 16, 3) := by decide +kernel
theorem d3_9 : decode prog_11_method_8_code 9 = .ok (.aload_n 0, 1) := by decide +kernel
theorem d3_10 : decode prog_11_method_8_code 10 = .ok (.aload_n 0, 1) := by decide +kernel
theorem d3_11 : decode prog_11_method_8_code 11 = .ok (.invokevirtual 24, 3) := by decide +kernel
theorem pd_2 : parseMethodDescriptor "()I" = some ⟨[], some .int⟩ := by decide +kernel
theorem d3_14 : decode prog_11_method_8_code 14 = .ok (.putfield 59, 3) := by decide +kernel
theorem d3_17 : decode prog_11_method_8_code 17 = .ok (.aload_n 0, 1) := by decide +kernel
theorem d3_18 : decode prog_11_method_8_code 18 = .ok (.iconst 0, 1) := by decide +kernel
theorem d3_19 : decode prog_11_method_8_code 19 = .ok (.putfield 7, 3) := by decide +kernel
theorem d3_22 : decode prog_11_method_8_code 22 = .ok (.aload_n 0, 1) := by decide +kernel
theorem d3_23 : decode prog_11_method_8_code 23 = .ok (.getfield 59, 3) := by decide +kernel
theorem d3_26 : decode prog_11_method_8_code 26 = .ok (.aload_n 0, 1) := by decide +kernel
theorem d3_27 : decode prog_11_method_8_code 27 = .ok (.dup, 1) := by decide +kernel
theorem d3_28 : decode prog_11_method_8_code 28 = .ok (.getfield 7, 3) := by decide +kernel
theorem d3_31 : decode prog_11_method_8_code 31 = .ok (.dup_x1, 1) := by decide +kernel
theorem d3_32 : decode prog_11_method_8_code 32 = .ok (.iconst 1, 1) := by decide +kernel
theorem d3_33 : decode prog_11_method_8_code 33 = .ok (.iadd, 1) := by decide +kernel
theorem d3_34 : decode prog_11_method_8_code 34 = .ok (.putfield 7, 3) := by decide +kernel
theorem d3_37 : decode prog_11_method_8_code 37 = .ok (.iushr, 1) := by decide +kernel
theorem d3_38 : decode prog_11_method_8_code 38 = .ok (.iconst 1, 1) := by decide +kernel
theorem d3_39 : decode prog_11_method_8_code 39 = .ok (.iand, 1) := by decide +kernel
theorem d3_40 : decode prog_11_method_8_code 40 = .ok (.iconst 1, 1) := by decide +kernel
theorem d3_41 : decode prog_11_method_8_code 41 = .ok (.if_icmp .ne 7, 3) := by decide +kernel
theorem d3_44 : decode prog_11_method_8_code 44 = .ok (.iconst 1, 1) := by decide +kernel
theorem d3_45 : decode prog_11_method_8_code 45 = .ok (.goto 4, 3) := by decide +kernel
theorem d3_48 : decode prog_11_method_8_code 48 = .ok (.iconst 0, 1) := by decide +kernel
theorem d3_49 : decode prog_11_method_8_code 49 = .ok (.ireturn, 1) := by decide +kernel
theorem pn_3 : plainName "com/example/dispatchbook/dispatchbook/amqp/WireReader" = true := by first | (simp [plainName, overriddenIn]; done) | decide +kernel
theorem ef_3a (m : MethodId) (x0 : Addr) : entryFrame m #[(.ref x0)] 1 = mkF m 0 #[rv x0] [] := by first | (simp [entryFrame, mkF, argsToLocals, Value.category]; done) | rfl
def Q3a (Z : State) (r : Addr) (b : Addr) (f : Nat → Int32) (pos : Int32) (bits : Int32) (i : Nat) (h0 : Heap) (n0 : Nat) (v : Option Value) (h : Heap) (L : List Loc) : Prop := v = some (.int (bitAt (f i &&& 255) 0)) ∧ Fr n0 L ∧ Keep h0 h [r] ∧ RD Z h r b f (pos + 1) (f i &&& 255) (0 + 1)
set_option maxRecDepth 65536 in
set_option maxHeartbeats 40000000 in
theorem rm3a (l : Launch) (Z : State) (a0 : Array Value) (hw : ∀ d ∈ tables_1, d.before a0 Z = true) (ws : List Jvm.Cond) (r : Addr) (b : Addr) (f : Nat → Int32) (pos : Int32) (bits : Int32) (i : Nat) (h0 : Heap) (n0 : Nat) (Z0 : n0 ≤ h0.size) (hR : RD Z h0 r b f pos bits 8) (g_r : n0 ≤ r) (hp : pos.toInt = (i : Int)) (hi : i < 3) :
    MetFree l (⟨"com/example/dispatchbook/dispatchbook/amqp/WireReader", "bit", "()Z"⟩ : MethodName) (head1 (Jvm.Cond.code (⟨"com/example/dispatchbook/dispatchbook/amqp/WireReader", "bit", "()Z"⟩ : MethodName) prog_11_method_8_code 1 (some .boolean) :: ws) ({ frames := 2, cells := 0, slots := 0, locals := 26 } : Room)) (fun a U => a = #[(.ref r)] ∧ Z.Warmed39 U.vm ∧ U.heap = h0) (fun _ _ _ _ _ => True) (fun _ U o U' => ∃ v L, o = .returned v ∧ Q3a Z r b f pos bits i h0 n0 v U'.heap L ∧ FrameEnd U o U' L ({ frames := 2, cells := 0, slots := 0, locals := 26 } : Room).cells ({ frames := 2, cells := 0, slots := 0, locals := 26 } : Room).slots) := by
  refine MetFree.of_bodySF (plainFor_of_name pn_3) hisR ?_
  intro p e s m args below meth c s₁ Bd hml0 hP hK
  obtain ⟨rfl, hZ, hh⟩ := hP
  have hx := Bd.exec
  have hby := Bd.bytes
  have hml : c.maxLocals = 1 := hml0
  have hown : s.vm.findClass "com/example/dispatchbook/dispatchbook/amqp/WireReader" = some m.cls := findClass_of_methodNamed Bd.named
  have hnm := (name_of_methodNamed Bd.named Bd.method).1
  have X0 : Stand p l e ({ frames := 2, cells := 0, slots := 0, locals := 26 } : Room) s m #[(.ref r)] below meth c s₁ [] 0 0 := Stand.of_body Bd
  have e0 : s₁.heap = h0 := by rw [← hh, Bd.state]; rfl
  have N0 := Fr.nil n0
  show Ends p.tables e below (fun (s₂ : State) (o : Outcome) => ∃ v L, o = .returned v ∧ (Q3a Z r b f pos bits i h0 n0) v s₂.heap L ∧ FrameEnd s o s₂ L ({ frames := 2, cells := 0, slots := 0, locals := 26 } : Room).cells ({ frames := 2, cells := 0, slots := 0, locals := 26 } : Room).slots) (s₁.setTop (entryFrame m #[(.ref r)] 1))
  refine Ends.any fun G hG => ?_
  refine Ends.go (fun t k => castTop (ef_3a m r) k) ?_
  show Ends p.tables e below G (s₁.setTop (mkF m 0 #[rv r] []))
  obtain ⟨E_r, F_by, F_po, F_bi, F_bc, V_b⟩ := hR
  have ne_b : b ≠ r := own_neA E_r (hw _ (List.mem_of_getElem? (i := 2) rfl)) V_b
  have K0 := Keep.refl h0 [r]
  refine Ends.go (fun _ => XS.aloadN X0.here hx rfl (hb hby d3_0) rfl rfl) ?_
  show Ends p.tables e below G (s₁.setTop (mkF m 1 #[rv r] [(.ref r)]))
  obtain ⟨T1, X1, e1, st1⟩ := getF X0 hx hZ hown (host := "") (Or.inl (hw _ (List.mem_of_getElem? (i := 10) rfl))) Via.refl e0 F_bc (g := (mkF m 1 #[rv r] [(.ref r)])) rfl rfl (hb hby d3_1)
  refine Ends.go (fun _ => st1 _) ?_
  show Ends p.tables e below G (T1.setTop (mkF m 4 #[rv r] [(.int (8 : Int32))]))
  refine Ends.go (fun _ => XS.bipush X1.here hx rfl (hb hby d3_4)) ?_
  show Ends p.tables e below G (T1.setTop (mkF m 6 #[rv r] [(.int (8 : Int32)), (.int (8 : Int32))]))
  refine Ends.go (fun _ => XS.icmpNo X1.here hx rfl (hb hby d3_6) rfl (teq (rfl : (8 : Int32) = (8 : Int32))).2) ?_
  show Ends p.tables e below G (T1.setTop (mkF m 9 #[rv r] []))
  refine Ends.go (fun _ => XS.aloadN X1.here hx rfl (hb hby d3_9) rfl rfl) ?_
  show Ends p.tables e below G (T1.setTop (mkF m 10 #[rv r] [(.ref r)]))
  refine Ends.go (fun _ => XS.aloadN X1.here hx rfl (hb hby d3_10) rfl rfl) ?_
  show Ends p.tables e below G (T1.setTop (mkF m 11 #[rv r] [(.ref r), (.ref r)]))
  obtain ⟨cq2, kq2, q2a, q2b, q2c⟩ := isOf hZ e1 E_r
  obtain ⟨_, _, ⟨T2, L2, k2, n2⟩, -, X2, ⟨Lc2, hQ2, l2, y2, z2⟩, st2⟩ := X1.virtualBack hx (y := (⟨"com/example/dispatchbook/dispatchbook/amqp/WireReader", "octet", "()I"⟩ : MethodName)) (z := (⟨"com/example/dispatchbook/dispatchbook/amqp/WireReader", "octet", "()I"⟩ : MethodName)) hown (mvT hZ (hw _ (List.mem_of_getElem? (i := 19) rfl))) (mvT hZ (hw _ (List.mem_of_getElem? (i := 20) rfl))) (notFace_of_selects (args := #[]) (mvT hZ (hw _ (List.mem_of_getElem? (i := 22) rfl)))) (mvT hZ (hw _ (List.mem_of_getElem? (i := 22) rfl))) (mvT hZ (hw _ (List.mem_of_getElem? (i := 21) rfl))) (by decide) (backOf (W := 1) (rm4 l Z a0 hw [] r b f pos bits 8 i h0 n0 Z0 ⟨E_r, F_by, F_po, F_bi, F_bc, V_b⟩ g_r hp hi) hZ (hw _ (List.mem_of_getElem? (i := 23) rfl)) (hw _ (List.mem_of_getElem? (i := 3) rfl)) (by decide) (by decide)) q2a q2c (g := (mkF m 11 #[rv r] [(.ref r), (.ref r)])) rfl (by rw [hml]; rfl) (Steps.refl _) (argsL := []) (rest := [(.ref r)]) (lenOf pd_2 rfl) rfl (by show 2 * 0 + _ ≤ _; exact Nat.le_of_eq rfl) (hb hby d3_11) (fun _ _ => ⟨rfl, e1, (by decide : 0 + 0 ≤ _), (by decide : 0 + 0 ≤ _)⟩)
  dsimp only [Pt.U, Pt.locs, Pt.cells, Pt.slots] at X2 l2 y2 z2 st2 hQ2
  subst l2 y2 z2
  obtain ⟨rfl, N2q, Kq2, R2⟩ := hQ2
  have N2 := Fr.app N0 N2q
  have f2_E_r := Exa.keep E_r Kq2
  have f2_V_b := AF.keep V_b Kq2 (ninS ne_b nin0)
  have sz2 := Nat.le_trans Z0 (Kq2).1
  have K2 := Keep.trans K0 Kq2 (allS (Or.inl (List.mem_of_getElem? (i := 0) rfl)) all0)
  obtain ⟨E_r2, F_by2, F_po2, F_bi2, F_bc2, V_b2⟩ := R2
  refine Ends.go (fun _ => st2.trans) ?_
  show Ends p.tables e below G (T2.setTop (mkF m 14 #[rv r] [(.int (f i &&& 255)), (.ref r)]))
  obtain ⟨T3, h3, X3, e3, W3, st3⟩ := putF X2 hx hZ hown (host := "") (Or.inl (hw _ (List.mem_of_getElem? (i := 30) rfl))) Via.refl rfl F_bi2 E_r2 (Or.inl (hw _ (List.mem_of_getElem? (i := 31) rfl))) (hw _ (List.mem_of_getElem? (i := 2) rfl)) (ty := .int) (by decide) rfl rfl (g := (mkF m 14 #[rv r] [(.int (f i &&& 255)), (.ref r)])) rfl rfl (hb hby d3_14)
  have f3_E_r := E_r2.wr W3
  have f3_F_r_bytes := F_by2.other W3 (Or.inr (slot_ne (Or.inr (hw _ (List.mem_of_getElem? (i := 13) rfl))) (Or.inl (hw _ (List.mem_of_getElem? (i := 31) rfl))) (by decide) (t := (.array .byte)) (t' := .int) (by decide) (by decide)))
  have f3_F_r_position := F_po2.other W3 (Or.inr (slot_ne (Or.inl (hw _ (List.mem_of_getElem? (i := 29) rfl))) (Or.inl (hw _ (List.mem_of_getElem? (i := 31) rfl))) (by decide) (t := .int) (t' := .int) (by decide) (by decide)))
  have f3_F_r_bits := F_bi2.same W3
  have f3_F_r_bitCount := F_bc2.other W3 (Or.inr (slot_ne (Or.inl (hw _ (List.mem_of_getElem? (i := 11) rfl))) (Or.inl (hw _ (List.mem_of_getElem? (i := 31) rfl))) (by decide) (t := .int) (t' := .int) (by decide) (by decide)))
  have f3_V_b := AF.other V_b2 W3 ne_b
  have sz3 := Nat.le_trans sz2 (Nat.le_of_eq W3.size.symm)
  have K3 := Keep.wr K2 W3 (Or.inl (List.mem_of_getElem? (i := 0) rfl))
  have N3 := Fr.snoc X3 N2 g_r
  refine Ends.go (fun _ => st3 _) ?_
  show Ends p.tables e below G (T3.setTop (mkF m 17 #[rv r] []))
  refine Ends.go (fun _ => XS.aloadN X3.here hx rfl (hb hby d3_17) rfl rfl) ?_
  show Ends p.tables e below G (T3.setTop (mkF m 18 #[rv r] [(.ref r)]))
  refine Ends.go (fun _ => XS.iconst X3.here hx rfl (hb hby d3_18)) ?_
  show Ends p.tables e below G (T3.setTop (mkF m 19 #[rv r] [(.int (0 : Int32)), (.ref r)]))
  obtain ⟨T4, h4, X4, e4, W4, st4⟩ := putF X3 hx hZ hown (host := "") (Or.inl (hw _ (List.mem_of_getElem? (i := 10) rfl))) Via.refl e3 f3_F_r_bitCount f3_E_r (Or.inl (hw _ (List.mem_of_getElem? (i := 11) rfl))) (hw _ (List.mem_of_getElem? (i := 2) rfl)) (ty := .int) (by decide) rfl rfl (g := (mkF m 19 #[rv r] [(.int (0 : Int32)), (.ref r)])) rfl rfl (hb hby d3_19)
  have f4_E_r := f3_E_r.wr W4
  have f4_F_r_bytes := f3_F_r_bytes.other W4 (Or.inr (slot_ne (Or.inr (hw _ (List.mem_of_getElem? (i := 13) rfl))) (Or.inl (hw _ (List.mem_of_getElem? (i := 11) rfl))) (by decide) (t := (.array .byte)) (t' := .int) (by decide) (by decide)))
  have f4_F_r_position := f3_F_r_position.other W4 (Or.inr (slot_ne (Or.inl (hw _ (List.mem_of_getElem? (i := 29) rfl))) (Or.inl (hw _ (List.mem_of_getElem? (i := 11) rfl))) (by decide) (t := .int) (t' := .int) (by decide) (by decide)))
  have f4_F_r_bits := f3_F_r_bits.other W4 (Or.inr (slot_ne (Or.inl (hw _ (List.mem_of_getElem? (i := 31) rfl))) (Or.inl (hw _ (List.mem_of_getElem? (i := 11) rfl))) (by decide) (t := .int) (t' := .int) (by decide) (by decide)))
  have f4_F_r_bitCount := f3_F_r_bitCount.same W4
  have f4_V_b := AF.other f3_V_b W4 ne_b
  have sz4 := Nat.le_trans sz3 (Nat.le_of_eq W4.size.symm)
  have K4 := Keep.wr K3 W4 (Or.inl (List.mem_of_getElem? (i := 0) rfl))
  have N4 := Fr.snoc X4 N3 g_r
  refine Ends.go (fun _ => st4 _) ?_
  show Ends p.tables e below G (T4.setTop (mkF m 22 #[rv r] []))
  refine Ends.go (fun _ => XS.aloadN X4.here hx rfl (hb hby d3_22) rfl rfl) ?_
  show Ends p.tables e below G (T4.setTop (mkF m 23 #[rv r] [(.ref r)]))
  obtain ⟨T5, X5, e5, st5⟩ := getF X4 hx hZ hown (host := "") (Or.inl (hw _ (List.mem_of_getElem? (i := 30) rfl))) Via.refl e4 f4_F_r_bits (g := (mkF m 23 #[rv r] [(.ref r)])) rfl rfl (hb hby d3_23)
  refine Ends.go (fun _ => st5 _) ?_
  show Ends p.tables e below G (T5.setTop (mkF m 26 #[rv r] [(.int (f i &&& 255))]))
  refine Ends.go (fun _ => XS.aloadN X5.here hx rfl (hb hby d3_26) rfl rfl) ?_
  show Ends p.tables e below G (T5.setTop (mkF m 27 #[rv r] [(.ref r), (.int (f i &&& 255))]))
  refine Ends.go (fun _ => XS.dup X5.here hx rfl (hb hby d3_27) rfl rfl) ?_
  show Ends p.tables e below G (T5.setTop (mkF m 28 #[rv r] [(.ref r), (.ref r), (.int (f i &&& 255))]))
  obtain ⟨T6, X6, e6, st6⟩ := getF X5 hx hZ hown (host := "") (Or.inl (hw _ (List.mem_of_getElem? (i := 10) rfl))) Via.refl e5 f4_F_r_bitCount (g := (mkF m 28 #[rv r] [(.ref r), (.ref r), (.int (f i &&& 255))])) rfl rfl (hb hby d3_28)
  refine Ends.go (fun _ => st6 _) ?_
  show Ends p.tables e below G (T6.setTop (mkF m 31 #[rv r] [(.int (0 : Int32)), (.ref r), (.int (f i &&& 255))]))
  refine Ends.go (fun _ => XS.dupX1 X6.here hx rfl (hb hby d3_31) rfl rfl rfl) ?_
  show Ends p.tables e below G (T6.setTop (mkF m 32 #[rv r] [(.int (0 : Int32)), (.ref r), (.int (0 : Int32)), (.int (f i &&& 255))]))
  refine Ends.go (fun _ => XS.iconst X6.here hx rfl (hb hby d3_32)) ?_
  show Ends p.tables e below G (T6.setTop (mkF m 33 #[rv r] [(.int (1 : Int32)), (.int (0 : Int32)), (.ref r), (.int (0 : Int32)), (.int (f i &&& 255))]))
  refine Ends.go (fun _ => XS.iadd X6.here hx rfl (hb hby d3_33) rfl) ?_
  show Ends p.tables e below G (T6.setTop (mkF m 34 #[rv r] [(.int ((0 : Int32) + (1 : Int32))), (.ref r), (.int (0 : Int32)), (.int (f i &&& 255))]))
  obtain ⟨T7, h7, X7, e7, W7, st7⟩ := putF X6 hx hZ hown (host := "") (Or.inl (hw _ (List.mem_of_getElem? (i := 10) rfl))) Via.refl e6 f4_F_r_bitCount f4_E_r (Or.inl (hw _ (List.mem_of_getElem? (i := 11) rfl))) (hw _ (List.mem_of_getElem? (i := 2) rfl)) (ty := .int) (by decide) rfl rfl (g := (mkF m 34 #[rv r] [(.int ((0 : Int32) + (1 : Int32))), (.ref r), (.int (0 : Int32)), (.int (f i &&& 255))])) rfl rfl (hb hby d3_34)
  have f7_E_r := f4_E_r.wr W7
  have f7_F_r_bytes := f4_F_r_bytes.other W7 (Or.inr (slot_ne (Or.inr (hw _ (List.mem_of_getElem? (i := 13) rfl))) (Or.inl (hw _ (List.mem_of_getElem? (i := 11) rfl))) (by decide) (t := (.array .byte)) (t' := .int) (by decide) (by decide)))
  have f7_F_r_position := f4_F_r_position.other W7 (Or.inr (slot_ne (Or.inl (hw _ (List.mem_of_getElem? (i := 29) rfl))) (Or.inl (hw _ (List.mem_of_getElem? (i := 11) rfl))) (by decide) (t := .int) (t' := .int) (by decide) (by decide)))
  have f7_F_r_bits := f4_F_r_bits.other W7 (Or.inr (slot_ne (Or.inl (hw _ (List.mem_of_getElem? (i := 31) rfl))) (Or.inl (hw _ (List.mem_of_getElem? (i := 11) rfl))) (by decide) (t := .int) (t' := .int) (by decide) (by decide)))
  have f7_F_r_bitCount := f4_F_r_bitCount.same W7
  have f7_V_b := AF.other f4_V_b W7 ne_b
  have sz7 := Nat.le_trans sz4 (Nat.le_of_eq W7.size.symm)
  have K7 := Keep.wr K4 W7 (Or.inl (List.mem_of_getElem? (i := 0) rfl))
  have N7 := Fr.snoc X7 N4 g_r
  refine Ends.go (fun _ => st7 _) ?_
  show Ends p.tables e below G (T7.setTop (mkF m 37 #[rv r] [(.int (0 : Int32)), (.int (f i &&& 255))]))
  refine Ends.go (fun _ => XS.iushr X7.here hx rfl (hb hby d3_37) rfl) ?_
  show Ends p.tables e below G (T7.setTop (mkF m 38 #[rv r] [(.int (((f i &&& 255).toUInt32 >>> ((0 : Int32) &&& 31).toUInt32).toInt32))]))
  refine Ends.go (fun _ => XS.iconst X7.here hx rfl (hb hby d3_38)) ?_
  show Ends p.tables e below G (T7.setTop (mkF m 39 #[rv r] [(.int (1 : Int32)), (.int (((f i &&& 255).toUInt32 >>> ((0 : Int32) &&& 31).toUInt32).toInt32))]))
  refine Ends.go (fun _ => XS.iand X7.here hx rfl (hb hby d3_39) rfl) ?_
  show Ends p.tables e below G (T7.setTop (mkF m 40 #[rv r] [(.int ((((f i &&& 255).toUInt32 >>> ((0 : Int32) &&& 31).toUInt32).toInt32) &&& (1 : Int32)))]))
  refine Ends.go (fun _ => XS.iconst X7.here hx rfl (hb hby d3_40)) ?_
  show Ends p.tables e below G (T7.setTop (mkF m 41 #[rv r] [(.int (1 : Int32)), (.int ((((f i &&& 255).toUInt32 >>> ((0 : Int32) &&& 31).toUInt32).toInt32) &&& (1 : Int32)))]))
  by_cases hc41 : (((((f i &&& 255).toUInt32 >>> ((0 : Int32) &&& 31).toUInt32).toInt32) &&& (1 : Int32)) = (1 : Int32))
  · refine Ends.go (fun _ => XS.icmpNo X7.here hx rfl (hb hby d3_41) rfl (teq (hc41 : ((((f i &&& 255).toUInt32 >>> ((0 : Int32) &&& 31).toUInt32).toInt32) &&& (1 : Int32)) = (1 : Int32))).2) ?_
    show Ends p.tables e below G (T7.setTop (mkF m 44 #[rv r] []))
    refine Ends.go (fun _ => XS.iconst X7.here hx rfl (hb hby d3_44)) ?_
    show Ends p.tables e below G (T7.setTop (mkF m 45 #[rv r] [(.int (1 : Int32))]))
    refine Ends.go (fun _ => XS.goto X7.here hx rfl (pc0 := 45) (pc' := 49) rfl (hb hby d3_45) (by decide) (by decide)) ?_
    show Ends p.tables e below G (T7.setTop (mkF m 49 #[rv r] [(.int (1 : Int32))]))
    refine own_finS (t := .boolean) X7 hx Bd.returns (by simp) Bd.notSynchronized (hb hby d3_49) (Q := (Q3a Z r b f pos bits i h0 n0)) hG (by decide) (by decide) ?_
    show (Q3a Z r b f pos bits i h0 n0) _ T7.heap _
    rw [e7]
    exact ⟨by rw [show bitAt (f i &&& 255) (0 : Int32) = 1 from hc41]; rfl, N7, K7, ⟨f7_E_r, f7_F_r_bytes, f7_F_r_position, f7_F_r_bits, f7_F_r_bitCount, f7_V_b⟩⟩
  · refine Ends.go (fun _ => XS.icmpYes X7.here hx rfl (pc0 := 41) (pc' := 48) rfl (hb hby d3_41) rfl (feq (hc41 : ¬ (((((f i &&& 255).toUInt32 >>> ((0 : Int32) &&& 31).toUInt32).toInt32) &&& (1 : Int32)) = (1 : Int32)))).2 (by decide) (by decide)) ?_
    show Ends p.tables e below G (T7.setTop (mkF m 48 #[rv r] []))
    refine Ends.go (fun _ => XS.iconst X7.here hx rfl (hb hby d3_48)) ?_
    show Ends p.tables e below G (T7.setTop (mkF m 49 #[rv r] [(.int (0 : Int32))]))
    refine own_finS (t := .boolean) X7 hx Bd.returns (by simp) Bd.notSynchronized (hb hby d3_49) (Q := (Q3a Z r b f pos bits i h0 n0)) hG (by decide) (by decide) ?_
    show (Q3a Z r b f pos bits i h0 n0) _ T7.heap _
    rw [e7]
    exact ⟨by rw [show bitAt (f i &&& 255) (0 : Int32) = 0 from ((and_one _).resolve_right hc41)]; rfl, N7, K7, ⟨f7_E_r, f7_F_r_bytes, f7_F_r_position, f7_F_r_bits, f7_F_r_bitCount, f7_V_b⟩⟩
theorem ef_3b (m : MethodId) (x0 : Addr) : entryFrame m #[(.ref x0)] 1 = mkF m 0 #[rv x0] [] := by first | (simp [entryFrame, mkF, argsToLocals, Value.category]; done) | rfl
def Q3b (Z : State) (r : Addr) (b : Addr) (f : Nat → Int32) (pos : Int32) (bits : Int32) (cnt : Int32) (h0 : Heap) (n0 : Nat) (v : Option Value) (h : Heap) (L : List Loc) : Prop := v = some (.int (bitAt bits cnt)) ∧ Fr n0 L ∧ Keep h0 h [r] ∧ RD Z h r b f pos bits (cnt + 1)
set_option maxRecDepth 65536 in
set_option maxHeartbeats 40000000 in
theorem rm3b (l : Launch) (Z : State) (a0 : Array Value) (hw : ∀ d ∈ tables_1, d.before a0 Z = true) (ws : List Jvm.Cond) (r : Addr) (b : Addr) (f : Nat → Int32) (pos : Int32) (bits : Int32) (cnt : Int32) (h0 : Heap) (n0 : Nat) (Z0 : n0 ≤ h0.size) (hR : RD Z h0 r b f pos bits cnt) (g_r : n0 ≤ r) (hc : ¬ (cnt = 8)) :
    MetFree l (⟨"com/example/dispatchbook/dispatchbook/amqp/WireReader", "bit", "()Z"⟩ : MethodName) (head1 (Jvm.Cond.code (⟨"com/example/dispatchbook/dispatchbook/amqp/WireReader", "bit", "()Z"⟩ : MethodName) prog_11_method_8_code 1 (some .boolean) :: ws) ({ frames := 2, cells := 0, slots := 0, locals := 26 } : Room)) (fun a U => a = #[(.ref r)] ∧ Z.Warmed39 U.vm ∧ U.heap = h0) (fun _ _ _ _ _ => True) (fun _ U o U' => ∃ v L, o = .returned v ∧ Q3b Z r b f pos bits cnt h0 n0 v U'.heap L ∧ FrameEnd U o U' L ({ frames := 2, cells := 0, slots := 0, locals := 26 } : Room).cells ({ frames := 2, cells := 0, slots := 0, locals := 26 } : Room).slots) := by
  refine MetFree.of_bodySF (plainFor_of_name pn_3) hisR ?_
  intro p e s m args below meth c s₁ Bd hml0 hP hK
  obtain ⟨rfl, hZ, hh⟩ := hP
  have hx := Bd.exec
  have hby := Bd.bytes
  have hml : c.maxLocals = 1 := hml0
  have hown : s.vm.findClass "com/example/dispatchbook/dispatchbook/amqp/WireReader" = some m.cls := findClass_of_methodNamed Bd.named
  have hnm := (name_of_methodNamed Bd.named Bd.method).1
  have X0 : Stand p l e ({ frames := 2, cells := 0, slots := 0, locals := 26 } : Room) s m #[(.ref r)] below meth c s₁ [] 0 0 := Stand.of_body Bd
  have e0 : s₁.heap = h0 := by rw [← hh, Bd.state]; rfl
  have N0 := Fr.nil n0
  show Ends p.tables e below (fun (s₂ : State) (o : Outcome) => ∃ v L, o = .returned v ∧ (Q3b Z r b f pos bits cnt h0 n0) v s₂.heap L ∧ FrameEnd s o s₂ L ({ frames := 2, cells := 0, slots := 0, locals := 26 } : Room).cells ({ frames := 2, cells := 0, slots := 0, locals := 26 } : Room).slots) (s₁.setTop (entryFrame m #[(.ref r)] 1))
  refine Ends.any fun G hG => ?_
  refine Ends.go (fun t k => castTop (ef_3b m r) k) ?_
  show Ends p.tables e below G (s₁.setTop (mkF m 0 #[rv r] []))
  obtain ⟨E_r, F_by, F_po, F_bi, F_bc, V_b⟩ := hR
  have ne_b : b ≠ r := own_neA E_r (hw _ (List.mem_of_getElem? (i := 2) rfl)) V_b
  have K0 := Keep.refl h0 [r]
  refine Ends.go (fun _ => XS.aloadN X0.here hx rfl (hb hby d3_0) rfl rfl) ?_
  show Ends p.tables e below G (s₁.setTop (mkF m 1 #[rv r] [(.ref r)]))
  obtain ⟨T1, X1, e1, st1⟩ := getF X0 hx hZ hown (host := "") (Or.inl (hw _ (List.mem_of_getElem? (i := 10) rfl))) Via.refl e0 F_bc (g := (mkF m 1 #[rv r] [(.ref r)])) rfl rfl (hb hby d3_1)
  refine Ends.go (fun _ => st1 _) ?_
  show Ends p.tables e below G (T1.setTop (mkF m 4 #[rv r] [(.int cnt)]))
  refine Ends.go (fun _ => XS.bipush X1.here hx rfl (hb hby d3_4)) ?_
  show Ends p.tables e below G (T1.setTop (mkF m 6 #[rv r] [(.int (8 : Int32)), (.int cnt)]))
  refine Ends.go (fun _ => XS.icmpYes X1.here hx rfl (pc0 := 6) (pc' := 22) rfl (hb hby d3_6) rfl (feq (hc : ¬ (cnt = (8 : Int32)))).2 (by decide) (by decide)) ?_
  show Ends p.tables e below G (T1.setTop (mkF m 22 #[rv r] []))
  refine Ends.go (fun _ => XS.aloadN X1.here hx rfl (hb hby d3_22) rfl rfl) ?_
  show Ends p.tables e below G (T1.setTop (mkF m 23 #[rv r] [(.ref r)]))
  obtain ⟨T2, X2, e2, st2⟩ := getF X1 hx hZ hown (host := "") (Or.inl (hw _ (List.mem_of_getElem? (i := 30) rfl))) Via.refl e1 F_bi (g := (mkF m 23 #[rv r] [(.ref r)])) rfl rfl (hb hby d3_23)
  refine Ends.go (fun _ => st2 _) ?_
  show Ends p.tables e below G (T2.setTop (mkF m 26 #[rv r] [(.int bits)]))
  refine Ends.go (fun _ => XS.aloadN X2.here hx rfl (hb hby d3_26) rfl rfl) ?_
  show Ends p.tables e below G (T2.setTop (mkF m 27 #[rv r] [(.ref r), (.int bits)]))
  refine Ends.go (fun _ => XS.dup X2.here hx rfl (hb hby d3_27) rfl rfl) ?_
  show Ends p.tables e below G (T2.setTop (mkF m 28 #[rv r] [(.ref r), (.ref r), (.int bits)]))
  obtain ⟨T3, X3, e3, st3⟩ := getF X2 hx hZ hown (host := "") (Or.inl (hw _ (List.mem_of_getElem? (i := 10) rfl))) Via.refl e2 F_bc (g := (mkF m 28 #[rv r] [(.ref r), (.ref r), (.int bits)])) rfl rfl (hb hby d3_28)
  refine Ends.go (fun _ => st3 _) ?_
  show Ends p.tables e below G (T3.setTop (mkF m 31 #[rv r] [(.int cnt), (.ref r), (.int bits)]))
  refine Ends.go (fun _ => XS.dupX1 X3.here hx rfl (hb hby d3_31) rfl rfl rfl) ?_
  show Ends p.tables e below G (T3.setTop (mkF m 32 #[rv r] [(.int cnt), (.ref r), (.int cnt), (.int bits)]))
  refine Ends.go (fun _ => XS.iconst X3.here hx rfl (hb hby d3_32)) ?_
  show Ends p.tables e below G (T3.setTop (mkF m 33 #[rv r] [(.int (1 : Int32)), (.int cnt), (.ref r), (.int cnt), (.int bits)]))
  refine Ends.go (fun _ => XS.iadd X3.here hx rfl (hb hby d3_33) rfl) ?_
  show Ends p.tables e below G (T3.setTop (mkF m 34 #[rv r] [(.int (cnt + (1 : Int32))), (.ref r), (.int cnt), (.int bits)]))
  obtain ⟨T4, h4, X4, e4, W4, st4⟩ := putF X3 hx hZ hown (host := "") (Or.inl (hw _ (List.mem_of_getElem? (i := 10) rfl))) Via.refl e3 F_bc E_r (Or.inl (hw _ (List.mem_of_getElem? (i := 11) rfl))) (hw _ (List.mem_of_getElem? (i := 2) rfl)) (ty := .int) (by decide) rfl rfl (g := (mkF m 34 #[rv r] [(.int (cnt + (1 : Int32))), (.ref r), (.int cnt), (.int bits)])) rfl rfl (hb hby d3_34)
  have f4_E_r := E_r.wr W4
  have f4_F_r_bytes := F_by.other W4 (Or.inr (slot_ne (Or.inr (hw _ (List.mem_of_getElem? (i := 13) rfl))) (Or.inl (hw _ (List.mem_of_getElem? (i := 11) rfl))) (by decide) (t := (.array .byte)) (t' := .int) (by decide) (by decide)))
  have f4_F_r_position := F_po.other W4 (Or.inr (slot_ne (Or.inl (hw _ (List.mem_of_getElem? (i := 29) rfl))) (Or.inl (hw _ (List.mem_of_getElem? (i := 11) rfl))) (by decide) (t := .int) (t' := .int) (by decide) (by decide)))
  have f4_F_r_bits := F_bi.other W4 (Or.inr (slot_ne (Or.inl (hw _ (List.mem_of_getElem? (i := 31) rfl))) (Or.inl (hw _ (List.mem_of_getElem? (i := 11) rfl))) (by decide) (t := .int) (t' := .int) (by decide) (by decide)))
  have f4_F_r_bitCount := F_bc.same W4
  have f4_V_b := AF.other V_b W4 ne_b
  have sz4 := Nat.le_trans Z0 (Nat.le_of_eq W4.size.symm)
  have K4 := Keep.wr K0 W4 (Or.inl (List.mem_of_getElem? (i := 0) rfl))
  have N4 := Fr.snoc X4 N0 g_r
  refine Ends.go (fun _ => st4 _) ?_
  show Ends p.tables e below G (T4.setTop (mkF m 37 #[rv r] [(.int cnt), (.int bits)]))
  refine Ends.go (fun _ => XS.iushr X4.here hx rfl (hb hby d3_37) rfl) ?_
  show Ends p.tables e below G (T4.setTop (mkF m 38 #[rv r] [(.int ((bits.toUInt32 >>> (cnt &&& 31).toUInt32).toInt32))]))
  refine Ends.go (fun _ => XS.iconst X4.here hx rfl (hb hby d3_38)) ?_
  show Ends p.tables e below G (T4.setTop (mkF m 39 #[rv r] [(.int (1 : Int32)), (.int ((bits.toUInt32 >>> (cnt &&& 31).toUInt32).toInt32))]))
  refine Ends.go (fun _ => XS.iand X4.here hx rfl (hb hby d3_39) rfl) ?_
  show Ends p.tables e below G (T4.setTop (mkF m 40 #[rv r] [(.int (((bits.toUInt32 >>> (cnt &&& 31).toUInt32).toInt32) &&& (1 : Int32)))]))
  refine Ends.go (fun _ => XS.iconst X4.here hx rfl (hb hby d3_40)) ?_
  show Ends p.tables e below G (T4.setTop (mkF m 41 #[rv r] [(.int (1 : Int32)), (.int (((bits.toUInt32 >>> (cnt &&& 31).toUInt32).toInt32) &&& (1 : Int32)))]))
  by_cases hc41 : ((((bits.toUInt32 >>> (cnt &&& 31).toUInt32).toInt32) &&& (1 : Int32)) = (1 : Int32))
  · refine Ends.go (fun _ => XS.icmpNo X4.here hx rfl (hb hby d3_41) rfl (teq (hc41 : (((bits.toUInt32 >>> (cnt &&& 31).toUInt32).toInt32) &&& (1 : Int32)) = (1 : Int32))).2) ?_
    show Ends p.tables e below G (T4.setTop (mkF m 44 #[rv r] []))
    refine Ends.go (fun _ => XS.iconst X4.here hx rfl (hb hby d3_44)) ?_
    show Ends p.tables e below G (T4.setTop (mkF m 45 #[rv r] [(.int (1 : Int32))]))
    refine Ends.go (fun _ => XS.goto X4.here hx rfl (pc0 := 45) (pc' := 49) rfl (hb hby d3_45) (by decide) (by decide)) ?_
    show Ends p.tables e below G (T4.setTop (mkF m 49 #[rv r] [(.int (1 : Int32))]))
    refine own_finS (t := .boolean) X4 hx Bd.returns (by simp) Bd.notSynchronized (hb hby d3_49) (Q := (Q3b Z r b f pos bits cnt h0 n0)) hG (by decide) (by decide) ?_
    show (Q3b Z r b f pos bits cnt h0 n0) _ T4.heap _
    rw [e4]
    exact ⟨by rw [show bitAt bits cnt = 1 from hc41]; rfl, N4, K4, ⟨f4_E_r, f4_F_r_bytes, f4_F_r_position, f4_F_r_bits, f4_F_r_bitCount, f4_V_b⟩⟩
  · refine Ends.go (fun _ => XS.icmpYes X4.here hx rfl (pc0 := 41) (pc' := 48) rfl (hb hby d3_41) rfl (feq (hc41 : ¬ ((((bits.toUInt32 >>> (cnt &&& 31).toUInt32).toInt32) &&& (1 : Int32)) = (1 : Int32)))).2 (by decide) (by decide)) ?_
    show Ends p.tables e below G (T4.setTop (mkF m 48 #[rv r] []))
    refine Ends.go (fun _ => XS.iconst X4.here hx rfl (hb hby d3_48)) ?_
    show Ends p.tables e below G (T4.setTop (mkF m 49 #[rv r] [(.int (0 : Int32))]))
    refine own_finS (t := .boolean) X4 hx Bd.returns (by simp) Bd.notSynchronized (hb hby d3_49) (Q := (Q3b Z r b f pos bits cnt h0 n0)) hG (by decide) (by decide) ?_
    show (Q3b Z r b f pos bits cnt h0 n0) _ T4.heap _
    rw [e4]
    exact ⟨by rw [show bitAt bits cnt = 0 from ((and_one _).resolve_right hc41)]; rfl, N4, K4, ⟨f4_E_r, f4_F_r_bytes, f4_F_r_position, f4_F_r_bits, f4_F_r_bitCount, f4_V_b⟩⟩
def own_f (a b c : Int32) (k : Nat) : Int32 := if k = 2 then nar .byte (c.toInt8.toInt32) else if k = 1 then nar .byte (b.toInt8.toInt32) else nar .byte (a.toInt8.toInt32)
theorem own_lo0 (va vb vc : Int32) : own_f va vb vc 0 &&& 255 = va &&& 255 := own_low va
theorem own_lo1 (va vb vc : Int32) : own_f va vb vc 1 &&& 255 = vb &&& 255 := own_low vb
theorem own_lo2 (va vb vc : Int32) : own_f va vb vc 2 &&& 255 = vc &&& 255 := own_low vc
theorem d6_0 : decode method_2_code 0 = .ok (.iload_n 0, 1) := by decide +kernel
theorem d6_1 : decode method_2_code 1 = .ok (.iload_n 1, 1) := by decide +kernel
theorem d6_2 : decode method_2_code 2 = .ok (.iushr, 1) := by decide +kernel
theorem d6_3 : decode method_2_code 3 = .ok (.iconst 1, 1) := by decide +kernel
theorem d6_4 : decode method_2_code 4 = .ok (.iand, 1) := by decide +kernel
theorem d6_5 : decode method_2_code 5 = .ok (.iconst 1, 1) := by decide +kernel
theorem d6_6 : decode method_2_code 6 = .ok (.if_icmp .ne 7, 3) := by decide +kernel
theorem d6_9 : decode method_2_code 9 = .ok (.iconst 1, 1) := by decide +kernel
theorem d6_10 : decode method_2_code 10 = .ok (.goto 4, 3) := by decide +kernel
theorem d6_13 : decode method_2_code 13 = .ok (.iconst 0, 1) := by decide +kernel
theorem d6_14 : decode method_2_code 14 = .ok (.ireturn, 1) := by decide +kernel
theorem pn_6 : plainName "com/example/dispatchbook/dispatchbook/amqp/WireReaderBitPinLaw" = true := by first | (simp [plainName, overriddenIn]; done) | decide +kernel
theorem ef_6 (m : MethodId) (x0 : Int32) (x1 : Int32) : entryFrame m #[(.int x0), (.int x1)] 2 = mkF m 0 #[iv x0, iv x1] [] := by first | (simp [entryFrame, mkF, argsToLocals, Value.category]; done) | rfl
def Q6 (Z : State) (y : Int32) (j : Int32) (h0 : Heap) (n0 : Nat) (v : Option Value) (h : Heap) (L : List Loc) : Prop := v = some (.int (bitAt y j)) ∧ Fr n0 L ∧ h = h0
set_option maxRecDepth 65536 in
set_option maxHeartbeats 40000000 in
theorem rm6 (l : Launch) (Z : State) (a0 : Array Value) (hw : ∀ d ∈ tables_1, d.before a0 Z = true) (ws : List Jvm.Cond) (y : Int32) (j : Int32) (h0 : Heap) (n0 : Nat) (Z0 : n0 ≤ h0.size) :
    MetFree l (⟨"com/example/dispatchbook/dispatchbook/amqp/WireReaderBitPinLaw", "bitOf", "(II)Z"⟩ : MethodName) (head1 (Jvm.Cond.code (⟨"com/example/dispatchbook/dispatchbook/amqp/WireReaderBitPinLaw", "bitOf", "(II)Z"⟩ : MethodName) method_2_code 2 (some .boolean) :: ws) ({ frames := 0, cells := 0, slots := 0, locals := 0 } : Room)) (fun a U => a = #[(.int y), (.int j)] ∧ Z.Warmed39 U.vm ∧ U.heap = h0) (fun _ _ _ _ _ => True) (fun _ U o U' => ∃ v L, o = .returned v ∧ Q6 Z y j h0 n0 v U'.heap L ∧ FrameEnd U o U' L ({ frames := 0, cells := 0, slots := 0, locals := 0 } : Room).cells ({ frames := 0, cells := 0, slots := 0, locals := 0 } : Room).slots) := by
  refine MetFree.of_bodySF (plainFor_of_name pn_6) hisR ?_
  intro p e s m args below meth c s₁ Bd hml0 hP hK
  obtain ⟨rfl, hZ, hh⟩ := hP
  have hx := Bd.exec
  have hby := Bd.bytes
  have hml : c.maxLocals = 2 := hml0
  have hown : s.vm.findClass "com/example/dispatchbook/dispatchbook/amqp/WireReaderBitPinLaw" = some m.cls := findClass_of_methodNamed Bd.named
  have hnm := (name_of_methodNamed Bd.named Bd.method).1
  have X0 : Stand p l e ({ frames := 0, cells := 0, slots := 0, locals := 0 } : Room) s m #[(.int y), (.int j)] below meth c s₁ [] 0 0 := Stand.of_body Bd
  have e0 : s₁.heap = h0 := by rw [← hh, Bd.state]; rfl
  have N0 := Fr.nil n0
  show Ends p.tables e below (fun (s₂ : State) (o : Outcome) => ∃ v L, o = .returned v ∧ (Q6 Z y j h0 n0) v s₂.heap L ∧ FrameEnd s o s₂ L ({ frames := 0, cells := 0, slots := 0, locals := 0 } : Room).cells ({ frames := 0, cells := 0, slots := 0, locals := 0 } : Room).slots) (s₁.setTop (entryFrame m #[(.int y), (.int j)] 2))
  refine Ends.any fun G hG => ?_
  refine Ends.go (fun t k => castTop (ef_6 m y j) k) ?_
  show Ends p.tables e below G (s₁.setTop (mkF m 0 #[iv y, iv j] []))
  refine Ends.go (fun _ => XS.iloadN X0.here hx rfl (hb hby d6_0) rfl) ?_
  show Ends p.tables e below G (s₁.setTop (mkF m 1 #[iv y, iv j] [(.int y)]))
  refine Ends.go (fun _ => XS.iloadN X0.here hx rfl (hb hby d6_1) rfl) ?_
  show Ends p.tables e below G (s₁.setTop (mkF m 2 #[iv y, iv j] [(.int j), (.int y)]))
  refine Ends.go (fun _ => XS.iushr X0.here hx rfl (hb hby d6_2) rfl) ?_
  show Ends p.tables e below G (s₁.setTop (mkF m 3 #[iv y, iv j] [(.int ((y.toUInt32 >>> (j &&& 31).toUInt32).toInt32))]))
  refine Ends.go (fun _ => XS.iconst X0.here hx rfl (hb hby d6_3)) ?_
  show Ends p.tables e below G (s₁.setTop (mkF m 4 #[iv y, iv j] [(.int (1 : Int32)), (.int ((y.toUInt32 >>> (j &&& 31).toUInt32).toInt32))]))
  refine Ends.go (fun _ => XS.iand X0.here hx rfl (hb hby d6_4) rfl) ?_
  show Ends p.tables e below G (s₁.setTop (mkF m 5 #[iv y, iv j] [(.int (((y.toUInt32 >>> (j &&& 31).toUInt32).toInt32) &&& (1 : Int32)))]))
  refine Ends.go (fun _ => XS.iconst X0.here hx rfl (hb hby d6_5)) ?_
  show Ends p.tables e below G (s₁.setTop (mkF m 6 #[iv y, iv j] [(.int (1 : Int32)), (.int (((y.toUInt32 >>> (j &&& 31).toUInt32).toInt32) &&& (1 : Int32)))]))
  by_cases hc : ((((y.toUInt32 >>> (j &&& 31).toUInt32).toInt32) &&& (1 : Int32)) = (1 : Int32))
  · refine Ends.go (fun _ => XS.icmpNo X0.here hx rfl (hb hby d6_6) rfl (teq (hc : (((y.toUInt32 >>> (j &&& 31).toUInt32).toInt32) &&& (1 : Int32)) = (1 : Int32))).2) ?_
    show Ends p.tables e below G (s₁.setTop (mkF m 9 #[iv y, iv j] []))
    refine Ends.go (fun _ => XS.iconst X0.here hx rfl (hb hby d6_9)) ?_
    show Ends p.tables e below G (s₁.setTop (mkF m 10 #[iv y, iv j] [(.int (1 : Int32))]))
    refine Ends.go (fun _ => XS.goto X0.here hx rfl (pc0 := 10) (pc' := 14) rfl (hb hby d6_10) (by decide) (by decide)) ?_
    show Ends p.tables e below G (s₁.setTop (mkF m 14 #[iv y, iv j] [(.int (1 : Int32))]))
    refine own_finS (t := .boolean) X0 hx Bd.returns (by simp) Bd.notSynchronized (hb hby d6_14) (Q := (Q6 Z y j h0 n0)) hG (by decide) (by decide) ?_
    show (Q6 Z y j h0 n0) _ s₁.heap _
    rw [e0]
    exact ⟨by rw [show bitAt y j = 1 from hc]; rfl, N0, rfl⟩
  · refine Ends.go (fun _ => XS.icmpYes X0.here hx rfl (pc0 := 6) (pc' := 13) rfl (hb hby d6_6) rfl (feq (hc : ¬ ((((y.toUInt32 >>> (j &&& 31).toUInt32).toInt32) &&& (1 : Int32)) = (1 : Int32)))).2 (by decide) (by decide)) ?_
    show Ends p.tables e below G (s₁.setTop (mkF m 13 #[iv y, iv j] []))
    refine Ends.go (fun _ => XS.iconst X0.here hx rfl (hb hby d6_13)) ?_
    show Ends p.tables e below G (s₁.setTop (mkF m 14 #[iv y, iv j] [(.int (0 : Int32))]))
    refine own_finS (t := .boolean) X0 hx Bd.returns (by simp) Bd.notSynchronized (hb hby d6_14) (Q := (Q6 Z y j h0 n0)) hG (by decide) (by decide) ?_
    show (Q6 Z y j h0 n0) _ s₁.heap _
    rw [e0]
    exact ⟨by rw [show bitAt y j = 0 from ((and_one _).resolve_right hc)]; rfl, N0, rfl⟩
theorem own_bk0 (va vb vc : Int32) (k : Fin 8) : bitAt (own_f va vb vc 0 &&& 255) (Int32.ofNat k.val) = bitAt va (Int32.ofNat k.val) := by rw [own_lo0]; exact own_bit1 va k
theorem own_bk1 (va vb vc : Int32) (k : Fin 8) : bitAt (own_f va vb vc 1 &&& 255) (Int32.ofNat k.val) = bitAt vb (Int32.ofNat k.val) := by rw [own_lo1]; exact own_bit1 vb k
theorem own_bk2 (va vb vc : Int32) (k : Fin 8) : bitAt (own_f va vb vc 2 &&& 255) (Int32.ofNat k.val) = bitAt vc (Int32.ofNat k.val) := by rw [own_lo2]; exact own_bit1 vc k
theorem pd_3 : parseMethodDescriptor "([B)V" = some ⟨[(.array .byte)], none⟩ := by decide +kernel
theorem pd_4 : parseMethodDescriptor "()Z" = some ⟨[], some .boolean⟩ := by decide +kernel
theorem pd_5 : parseMethodDescriptor "(II)Z" = some ⟨[.int, .int], some .boolean⟩ := by decide +kernel
theorem pn_0 : plainName "com/example/dispatchbook/dispatchbook/amqp/WireReaderBitPinLaw" = true := by first | (simp [plainName, overriddenIn]; done) | decide +kernel
theorem ef_0 (m : MethodId) (x0 : Int32) (x1 : Int32) (x2 : Int32) (x3 : Int32) : entryFrame m #[(.int x0), (.int x1), (.int x2), (.int x3)] maxLocals = mkF m 0 #[iv x0, iv x1, iv x2, iv x3, un, un, un] [] := by first | (simp [entryFrame, mkF, argsToLocals, Value.category, maxLocals]; done) | rfl
def Q0 (Z : State) (va : Int32) (vb : Int32) (vc : Int32) (vm : Int32) (h0 : Heap) (n0 : Nat) (v : Option Value) (h : Heap) (L : List Loc) : Prop := v = some (.int 1) ∧ Fr n0 L
set_option maxRecDepth 65536 in
set_option maxHeartbeats 40000000 in
theorem rm0 (l : Launch) (Z : State) (a0 : Array Value) (hw : ∀ d ∈ tables_1, d.before a0 Z = true) (ws : List Jvm.Cond) (va : Int32) (vb : Int32) (vc : Int32) (vm : Int32) (h0 : Heap) (n0 : Nat) (Z0 : n0 ≤ h0.size) :
    MetFree l x (head1 (Jvm.Cond.code x code maxLocals ret :: ws) room_1) (fun a U => a = #[(.int va), (.int vb), (.int vc), (.int vm)] ∧ Z.Warmed39 U.vm ∧ U.heap = h0) (fun _ _ _ _ _ => True) (fun _ U o U' => ∃ v L, o = .returned v ∧ Q0 Z va vb vc vm h0 n0 v U'.heap L ∧ FrameEnd U o U' L room_1.cells room_1.slots) := by
  refine MetFree.of_bodySF (plainFor_of_name pn_0) hisR ?_
  intro p e s m args below meth c s₁ Bd hml0 hP hK
  obtain ⟨rfl, hZ, hh⟩ := hP
  have hx := Bd.exec
  have hby := Bd.bytes
  have hml : c.maxLocals = 7 := hml0
  have hown : s.vm.findClass "com/example/dispatchbook/dispatchbook/amqp/WireReaderBitPinLaw" = some m.cls := findClass_of_methodNamed Bd.named
  have hnm := (name_of_methodNamed Bd.named Bd.method).1
  have X0 : Stand p l e room_1 s m #[(.int va), (.int vb), (.int vc), (.int vm)] below meth c s₁ [] 0 0 := Stand.of_body Bd
  have e0 : s₁.heap = h0 := by rw [← hh, Bd.state]; rfl
  have N0 := Fr.nil n0
  show Ends p.tables e below (fun (s₂ : State) (o : Outcome) => ∃ v L, o = .returned v ∧ (Q0 Z va vb vc vm h0 n0) v s₂.heap L ∧ FrameEnd s o s₂ L room_1.cells room_1.slots) (s₁.setTop (entryFrame m #[(.int va), (.int vb), (.int vc), (.int vm)] maxLocals))
  refine Ends.any fun G hG => ?_
  refine Ends.go (fun t k => castTop (ef_0 m va vb vc vm) k) ?_
  show Ends p.tables e below G (s₁.setTop (mkF m 0 #[iv va, iv vb, iv vc, iv vm, un, un, un] []))
  refine Ends.go (fun _ => XS.iconst X0.here hx rfl (hb hby at_0)) ?_
  show Ends p.tables e below G (s₁.setTop (mkF m 1 #[iv va, iv vb, iv vc, iv vm, un, un, un] [(.int (3 : Int32))]))
  obtain ⟨T1, h1, k1, X1, e1, E1, A1, st1⟩ := newP X0 hx hZ (hw _ (List.mem_of_getElem? (i := 0) rfl)) e0 (g := (mkF m 1 #[iv va, iv vb, iv vc, iv vm, un, un, un] [(.int (3 : Int32))])) rfl (hb hby at_1) rfl (by decide) (cap := 3) (by decide) (by decide) (by decide) (by decide)
  obtain ⟨b1, g1⟩ : ∃ z, z = h0.size := ⟨_, rfl⟩
  rw [← g1] at A1 st1
  have g_b1 : n0 ≤ b1 := Nat.le_trans Z0 (Nat.le_of_eq g1.symm)
  have sz1 := Nat.le_trans Z0 E1.1
  have V1 : AF Z h1 b1 .byte 3 (fun _ => (.int (0 : Int32))) := AF.new A1 rfl
  refine Ends.go (fun _ => st1 _) ?_
  show Ends p.tables e below G (T1.setTop (mkF m 3 #[iv va, iv vb, iv vc, iv vm, un, un, un] [(.ref b1)]))
  refine Ends.go (fun _ => XS.dup X1.here hx rfl (hb hby at_3) rfl rfl) ?_
  show Ends p.tables e below G (T1.setTop (mkF m 4 #[iv va, iv vb, iv vc, iv vm, un, un, un] [(.ref b1), (.ref b1)]))
  refine Ends.go (fun _ => XS.iconst X1.here hx rfl (hb hby at_4)) ?_
  show Ends p.tables e below G (T1.setTop (mkF m 5 #[iv va, iv vb, iv vc, iv vm, un, un, un] [(.int (0 : Int32)), (.ref b1), (.ref b1)]))
  refine Ends.go (fun _ => XS.iloadN X1.here hx rfl (hb hby at_5) rfl) ?_
  show Ends p.tables e below G (T1.setTop (mkF m 6 #[iv va, iv vb, iv vc, iv vm, un, un, un] [(.int va), (.int (0 : Int32)), (.ref b1), (.ref b1)]))
  refine Ends.go (fun _ => XS.i2b X1.here hx rfl (hb hby at_6) rfl) ?_
  show Ends p.tables e below G (T1.setTop (mkF m 7 #[iv va, iv vb, iv vc, iv vm, un, un, un] [(.int (va.toInt8.toInt32)), (.int (0 : Int32)), (.ref b1), (.ref b1)]))
  obtain ⟨T2, h2, X2, e2, W2, V2, st2⟩ := AF.stB V1 X1 hx hZ e1 (j := (0 : Int32)) (i := 0) (by decide) (by decide) (g := (mkF m 7 #[iv va, iv vb, iv vc, iv vm, un, un, un] [(.int (va.toInt8.toInt32)), (.int (0 : Int32)), (.ref b1), (.ref b1)])) rfl rfl (hb hby at_7)
  have sz2 := Nat.le_trans sz1 (Nat.le_of_eq W2.size.symm)
  have N2 := Fr.snoc X2 N0 g_b1
  refine Ends.go (fun _ => st2 _) ?_
  show Ends p.tables e below G (T2.setTop (mkF m 8 #[iv va, iv vb, iv vc, iv vm, un, un, un] [(.ref b1)]))
  refine Ends.go (fun _ => XS.dup X2.here hx rfl (hb hby at_8) rfl rfl) ?_
  show Ends p.tables e below G (T2.setTop (mkF m 9 #[iv va, iv vb, iv vc, iv vm, un, un, un] [(.ref b1), (.ref b1)]))
  refine Ends.go (fun _ => XS.iconst X2.here hx rfl (hb hby at_9)) ?_
  show Ends p.tables e below G (T2.setTop (mkF m 10 #[iv va, iv vb, iv vc, iv vm, un, un, un] [(.int (1 : Int32)), (.ref b1), (.ref b1)]))
  refine Ends.go (fun _ => XS.iloadN X2.here hx rfl (hb hby at_10) rfl) ?_
  show Ends p.tables e below G (T2.setTop (mkF m 11 #[iv va, iv vb, iv vc, iv vm, un, un, un] [(.int vb), (.int (1 : Int32)), (.ref b1), (.ref b1)]))
  refine Ends.go (fun _ => XS.i2b X2.here hx rfl (hb hby at_11) rfl) ?_
  show Ends p.tables e below G (T2.setTop (mkF m 12 #[iv va, iv vb, iv vc, iv vm, un, un, un] [(.int (vb.toInt8.toInt32)), (.int (1 : Int32)), (.ref b1), (.ref b1)]))
  obtain ⟨T3, h3, X3, e3, W3, V3, st3⟩ := AF.stB V2 X2 hx hZ e2 (j := (1 : Int32)) (i := 1) (by decide) (by decide) (g := (mkF m 12 #[iv va, iv vb, iv vc, iv vm, un, un, un] [(.int (vb.toInt8.toInt32)), (.int (1 : Int32)), (.ref b1), (.ref b1)])) rfl rfl (hb hby at_12)
  have sz3 := Nat.le_trans sz2 (Nat.le_of_eq W3.size.symm)
  have N3 := Fr.snoc X3 N2 g_b1
  refine Ends.go (fun _ => st3 _) ?_
  show Ends p.tables e below G (T3.setTop (mkF m 13 #[iv va, iv vb, iv vc, iv vm, un, un, un] [(.ref b1)]))
  refine Ends.go (fun _ => XS.dup X3.here hx rfl (hb hby at_13) rfl rfl) ?_
  show Ends p.tables e below G (T3.setTop (mkF m 14 #[iv va, iv vb, iv vc, iv vm, un, un, un] [(.ref b1), (.ref b1)]))
  refine Ends.go (fun _ => XS.iconst X3.here hx rfl (hb hby at_14)) ?_
  show Ends p.tables e below G (T3.setTop (mkF m 15 #[iv va, iv vb, iv vc, iv vm, un, un, un] [(.int (2 : Int32)), (.ref b1), (.ref b1)]))
  refine Ends.go (fun _ => XS.iloadN X3.here hx rfl (hb hby at_15) rfl) ?_
  show Ends p.tables e below G (T3.setTop (mkF m 16 #[iv va, iv vb, iv vc, iv vm, un, un, un] [(.int vc), (.int (2 : Int32)), (.ref b1), (.ref b1)]))
  refine Ends.go (fun _ => XS.i2b X3.here hx rfl (hb hby at_16) rfl) ?_
  show Ends p.tables e below G (T3.setTop (mkF m 17 #[iv va, iv vb, iv vc, iv vm, un, un, un] [(.int (vc.toInt8.toInt32)), (.int (2 : Int32)), (.ref b1), (.ref b1)]))
  obtain ⟨T4, h4, X4, e4, W4, V4, st4⟩ := AF.stB V3 X3 hx hZ e3 (j := (2 : Int32)) (i := 2) (by decide) (by decide) (g := (mkF m 17 #[iv va, iv vb, iv vc, iv vm, un, un, un] [(.int (vc.toInt8.toInt32)), (.int (2 : Int32)), (.ref b1), (.ref b1)])) rfl rfl (hb hby at_17)
  have sz4 := Nat.le_trans sz3 (Nat.le_of_eq W4.size.symm)
  have N4 := Fr.snoc X4 N3 g_b1
  refine Ends.go (fun _ => st4 _) ?_
  show Ends p.tables e below G (T4.setTop (mkF m 18 #[iv va, iv vb, iv vc, iv vm, un, un, un] [(.ref b1)]))
  refine Ends.go (fun _ => XS.astore X4.here hx rfl (hb hby at_18) rfl rfl (l' := #[iv va, iv vb, iv vc, iv vm, rv b1, un, un]) rfl) ?_
  show Ends p.tables e below G (T4.setTop (mkF m 20 #[iv va, iv vb, iv vc, iv vm, rv b1, un, un] []))
  obtain ⟨T5, h5, X5, e5, E5, A5, D5, -, st5⟩ := newO X4 hx hZ hown (hw _ (List.mem_of_getElem? (i := 1) rfl)) (hw _ (List.mem_of_getElem? (i := 2) rfl)) (hw _ (List.mem_of_getElem? (i := 3) rfl)) e4 (g := (mkF m 20 #[iv va, iv vb, iv vc, iv vm, rv b1, un, un] [])) rfl (hb hby at_20) (by decide) (by decide)
  obtain ⟨b5, g5⟩ : ∃ z, z = h4.size := ⟨_, rfl⟩
  rw [← g5] at A5 D5 st5
  have g_b5 : n0 ≤ b5 := Nat.le_trans sz4 (Nat.le_of_eq g5.symm)
  have ne_b1_b5 : b1 ≠ b5 := Nat.ne_of_lt (Nat.lt_of_lt_of_le (AF.lt V4) (Nat.le_of_eq g5.symm))
  have f5_V_b1 := AF.ext V4 E5
  have sz5 := Nat.le_trans sz4 E5.1
  have F5_bitCount : Fld Z h5 b5 "com/example/dispatchbook/dispatchbook/amqp/WireReader" "bitCount" "I" (.int (0 : Int32)) := D5 (Or.inl (hw _ (List.mem_of_getElem? (i := 11) rfl))) (ty := .int) (by decide)
  have F5_bytes : Fld Z h5 b5 "com/example/dispatchbook/dispatchbook/amqp/WireReader" "bytes" "[B" .null := D5 (Or.inr (hw _ (List.mem_of_getElem? (i := 13) rfl))) (ty := (.array .byte)) (by decide)
  have F5_position : Fld Z h5 b5 "com/example/dispatchbook/dispatchbook/amqp/WireReader" "position" "I" (.int (0 : Int32)) := D5 (Or.inl (hw _ (List.mem_of_getElem? (i := 29) rfl))) (ty := .int) (by decide)
  have F5_bits : Fld Z h5 b5 "com/example/dispatchbook/dispatchbook/amqp/WireReader" "bits" "I" (.int (0 : Int32)) := D5 (Or.inl (hw _ (List.mem_of_getElem? (i := 31) rfl))) (ty := .int) (by decide)
  refine Ends.go (fun _ => st5 _) ?_
  show Ends p.tables e below G (T5.setTop (mkF m 23 #[iv va, iv vb, iv vc, iv vm, rv b1, un, un] [(.ref b5)]))
  refine Ends.go (fun _ => XS.dup X5.here hx rfl (hb hby at_23) rfl rfl) ?_
  show Ends p.tables e below G (T5.setTop (mkF m 24 #[iv va, iv vb, iv vc, iv vm, rv b1, un, un] [(.ref b5), (.ref b5)]))
  refine Ends.go (fun _ => XS.aload X5.here hx rfl (hb hby at_24) rfl rfl) ?_
  show Ends p.tables e below G (T5.setTop (mkF m 26 #[iv va, iv vb, iv vc, iv vm, rv b1, un, un] [(.ref b1), (.ref b5), (.ref b5)]))
  have Vc := AF.congr (g := fun k => .int (own_f va vb vc k)) f5_V_b1 (fun j hj => match j, hj with | 0, _ => rfl | 1, _ => rfl | 2, _ => rfl)
  obtain ⟨_, _, ⟨T6, L6, k6, n6⟩, -, X6, ⟨Lc6, hQ6, l6, y6, z6⟩, st6⟩ := X5.specialBack hx (y := (⟨"com/example/dispatchbook/dispatchbook/amqp/WireReader", "<init>", "([B)V"⟩ : MethodName)) rfl hown (mvT hZ (hw _ (List.mem_of_getElem? (i := 4) rfl))) (mvT hZ (hw _ (List.mem_of_getElem? (i := 5) rfl))) (mvT hZ (hw _ (List.mem_of_getElem? (i := 6) rfl))) (by decide) (backOf (W := 1) (rm1 l Z a0 hw [] b5 b1 (own_f va vb vc) h5 n0 sz5 A5 F5_bytes F5_position F5_bits F5_bitCount Vc g_b5) hZ (hw _ (List.mem_of_getElem? (i := 6) rfl)) (hw _ (List.mem_of_getElem? (i := 3) rfl)) (by decide) (by decide)) (g := (mkF m 26 #[iv va, iv vb, iv vc, iv vm, rv b1, un, un] [(.ref b1), (.ref b5), (.ref b5)])) rfl (by rw [hml]; rfl) (Steps.refl _) (a := b5) (argsL := [(.ref b1)]) (rest := [(.ref b5)]) (lenOf pd_3 rfl) rfl (by show 2 * 0 + _ ≤ _; exact Nat.le_of_eq rfl) (hb hby at_26) (fun _ _ => ⟨rfl, e5, (by decide : ((0 + 1) + 1) + 0 ≤ _), (by decide : ((0 + 3) + 4) + 0 ≤ _)⟩)
  dsimp only [Pt.U, Pt.locs, Pt.cells, Pt.slots] at X6 l6 y6 z6 st6 hQ6
  subst l6 y6 z6
  obtain ⟨rfl, N6q, Kq6, R6⟩ := hQ6
  have N6 := Fr.app N4 N6q
  have sz6 := Nat.le_trans sz5 Kq6.1
  have E6 := R6.1
  refine Ends.go (fun _ => st6.trans) ?_
  show Ends p.tables e below G (T6.setTop (mkF m 29 #[iv va, iv vb, iv vc, iv vm, rv b1, un, un] [(.ref b5)]))
  refine Ends.go (fun _ => XS.astore X6.here hx rfl (hb hby at_29) rfl rfl (l' := #[iv va, iv vb, iv vc, iv vm, rv b1, rv b5, un]) rfl) ?_
  show Ends p.tables e below G (T6.setTop (mkF m 31 #[iv va, iv vb, iv vc, iv vm, rv b1, rv b5, un] []))
  refine Ends.go (fun _ => XS.aload X6.here hx rfl (hb hby at_31) rfl rfl) ?_
  show Ends p.tables e below G (T6.setTop (mkF m 33 #[iv va, iv vb, iv vc, iv vm, rv b1, rv b5, un] [(.ref b5)]))
  obtain ⟨cq7, kq7, q7a, q7b, q7c⟩ := isOf hZ rfl E6
  obtain ⟨_, _, ⟨T7, L7, k7, n7⟩, -, X7, ⟨Lc7, hQ7, l7, y7, z7⟩, st7⟩ := X6.virtualBack hx (y := (⟨"com/example/dispatchbook/dispatchbook/amqp/WireReader", "bit", "()Z"⟩ : MethodName)) (z := (⟨"com/example/dispatchbook/dispatchbook/amqp/WireReader", "bit", "()Z"⟩ : MethodName)) hown (mvT hZ (hw _ (List.mem_of_getElem? (i := 14) rfl))) (mvT hZ (hw _ (List.mem_of_getElem? (i := 15) rfl))) (notFace_of_selects (args := #[]) (mvT hZ (hw _ (List.mem_of_getElem? (i := 17) rfl)))) (mvT hZ (hw _ (List.mem_of_getElem? (i := 17) rfl))) (mvT hZ (hw _ (List.mem_of_getElem? (i := 16) rfl))) (by decide) (backOf (W := 0) (rm3a l Z a0 hw [] b5 b1 (own_f va vb vc) (0 : Int32) (0 : Int32) 0 T6.heap n0 sz6 R6 g_b5 (by decide) (by decide)) hZ (hw _ (List.mem_of_getElem? (i := 18) rfl)) (hw _ (List.mem_of_getElem? (i := 3) rfl)) (by decide) (by decide)) q7a q7c (g := (mkF m 33 #[iv va, iv vb, iv vc, iv vm, rv b1, rv b5, un] [(.ref b5)])) rfl (by rw [hml]; rfl) (Steps.refl _) (argsL := []) (rest := []) (lenOf pd_4 rfl) rfl (by show 2 * 0 + _ ≤ _; exact Nat.le_of_eq rfl) (hb hby at_33) (fun _ _ => ⟨rfl, rfl, (by decide : (((0 + 1) + 1) + 0) + 0 ≤ _), (by decide : (((0 + 3) + 4) + 0) + 0 ≤ _)⟩)
  dsimp only [Pt.U, Pt.locs, Pt.cells, Pt.slots] at X7 l7 y7 z7 st7 hQ7
  subst l7 y7 z7
  obtain ⟨rfl, N7q, Kq7, R7⟩ := hQ7
  have N7 := Fr.app N6 N7q
  have sz7 := Nat.le_trans sz6 Kq7.1
  have RR7 : RD Z T7.heap b5 b1 (own_f va vb vc) (1 : Int32) (own_f va vb vc 0 &&& 255) (1 : Int32) := R7
  have E7 := R7.1
  refine Ends.go (fun _ => st7.trans) ?_
  show Ends p.tables e below G (T7.setTop (mkF m 36 #[iv va, iv vb, iv vc, iv vm, rv b1, rv b5, un] [(.int (bitAt (own_f va vb vc 0 &&& 255) 0))]))
  refine Ends.go (fun _ => XS.iloadN X7.here hx rfl (hb hby at_36) rfl) ?_
  show Ends p.tables e below G (T7.setTop (mkF m 37 #[iv va, iv vb, iv vc, iv vm, rv b1, rv b5, un] [(.int va), (.int (bitAt (own_f va vb vc 0 &&& 255) 0))]))
  refine Ends.go (fun _ => XS.iconst X7.here hx rfl (hb hby at_37)) ?_
  show Ends p.tables e below G (T7.setTop (mkF m 38 #[iv va, iv vb, iv vc, iv vm, rv b1, rv b5, un] [(.int (0 : Int32)), (.int va), (.int (bitAt (own_f va vb vc 0 &&& 255) 0))]))
  obtain ⟨_, _, ⟨T8, L8, k8, n8⟩, -, X8, ⟨Lc8, hQ8, l8, y8, z8⟩, st8⟩ := Jvm.LawKit.callS X7 hx (y := (⟨"com/example/dispatchbook/dispatchbook/amqp/WireReaderBitPinLaw", "bitOf", "(II)Z"⟩ : MethodName)) hown (mvT hZ (hw _ (List.mem_of_getElem? (i := 32) rfl))) (mvT hZ (hw _ (List.mem_of_getElem? (i := 33) rfl))) (mvT hZ (hw _ (List.mem_of_getElem? (i := 34) rfl))) (mvT hZ (hw _ (List.mem_of_getElem? (i := 35) rfl))) (by decide) (backOf (W := 1) (rm6 l Z a0 hw [] va (0 : Int32) T7.heap n0 sz7) hZ (hw _ (List.mem_of_getElem? (i := 35) rfl)) (hw _ (List.mem_of_getElem? (i := 34) rfl)) (by decide) (by decide)) (g := (mkF m 38 #[iv va, iv vb, iv vc, iv vm, rv b1, rv b5, un] [(.int (0 : Int32)), (.int va), (.int (bitAt (own_f va vb vc 0 &&& 255) 0))])) rfl (by rw [hml]; rfl) (argsL := [(.int va), (.int (0 : Int32))]) (rest := [(.int (bitAt (own_f va vb vc 0 &&& 255) 0))]) (lenOf pd_5 rfl) rfl (by show 2 * 0 + _ ≤ _; exact Nat.le_of_eq rfl) (hb hby at_38) (fun _ _ => ⟨rfl, rfl, (by decide : ((((0 + 1) + 1) + 0) + 0) + 0 ≤ _), (by decide : ((((0 + 3) + 4) + 0) + 0) + 0 ≤ _)⟩)
  dsimp only [Pt.U, Pt.locs, Pt.cells, Pt.slots] at X8 l8 y8 z8 st8 hQ8
  subst l8 y8 z8
  obtain ⟨rfl, N8q, e8⟩ := hQ8
  have N8 := Fr.app N7 N8q
  refine Ends.go (fun _ => st8 _) ?_
  show Ends p.tables e below G (T8.setTop (mkF m 41 #[iv va, iv vb, iv vc, iv vm, rv b1, rv b5, un] [(.int (bitAt va (0 : Int32))), (.int (bitAt (own_f va vb vc 0 &&& 255) 0))]))
  refine Ends.go (fun _ => XS.icmpNo X8.here hx rfl (hb hby at_41) rfl (teq (own_bk0 va vb vc ⟨0, by decide⟩ : (bitAt (own_f va vb vc 0 &&& 255) 0) = (bitAt va (0 : Int32)))).2) ?_
  show Ends p.tables e below G (T8.setTop (mkF m 44 #[iv va, iv vb, iv vc, iv vm, rv b1, rv b5, un] []))
  refine Ends.go (fun _ => XS.iconst X8.here hx rfl (hb hby at_44)) ?_
  show Ends p.tables e below G (T8.setTop (mkF m 45 #[iv va, iv vb, iv vc, iv vm, rv b1, rv b5, un] [(.int (1 : Int32))]))
  refine Ends.go (fun _ => XS.goto X8.here hx rfl (pc0 := 45) (pc' := 49) rfl (hb hby at_45) (by decide) (by decide)) ?_
  show Ends p.tables e below G (T8.setTop (mkF m 49 #[iv va, iv vb, iv vc, iv vm, rv b1, rv b5, un] [(.int (1 : Int32))]))
  refine Ends.go (fun _ => XS.istore X8.here hx rfl (hb hby at_49) rfl (l' := #[iv va, iv vb, iv vc, iv vm, rv b1, rv b5, iv (1 : Int32)]) rfl) ?_
  show Ends p.tables e below G (T8.setTop (mkF m 51 #[iv va, iv vb, iv vc, iv vm, rv b1, rv b5, iv (1 : Int32)] []))
  refine Ends.go (fun _ => XS.iload X8.here hx rfl (hb hby at_51) rfl) ?_
  show Ends p.tables e below G (T8.setTop (mkF m 53 #[iv va, iv vb, iv vc, iv vm, rv b1, rv b5, iv (1 : Int32)] [(.int (1 : Int32))]))
  refine Ends.go (fun _ => XS.aload X8.here hx rfl (hb hby at_53) rfl rfl) ?_
  show Ends p.tables e below G (T8.setTop (mkF m 55 #[iv va, iv vb, iv vc, iv vm, rv b1, rv b5, iv (1 : Int32)] [(.ref b5), (.int (1 : Int32))]))
  obtain ⟨cq9, kq9, q9a, q9b, q9c⟩ := isOf hZ e8 E7
  obtain ⟨_, _, ⟨T9, L9, k9, n9⟩, -, X9, ⟨Lc9, hQ9, l9, y9, z9⟩, st9⟩ := X8.virtualBack hx (y := (⟨"com/example/dispatchbook/dispatchbook/amqp/WireReader", "bit", "()Z"⟩ : MethodName)) (z := (⟨"com/example/dispatchbook/dispatchbook/amqp/WireReader", "bit", "()Z"⟩ : MethodName)) hown (mvT hZ (hw _ (List.mem_of_getElem? (i := 14) rfl))) (mvT hZ (hw _ (List.mem_of_getElem? (i := 15) rfl))) (notFace_of_selects (args := #[]) (mvT hZ (hw _ (List.mem_of_getElem? (i := 17) rfl)))) (mvT hZ (hw _ (List.mem_of_getElem? (i := 17) rfl))) (mvT hZ (hw _ (List.mem_of_getElem? (i := 16) rfl))) (by decide) (backOf (W := 1) (rm3b l Z a0 hw [] b5 b1 (own_f va vb vc) (1 : Int32) (own_f va vb vc 0 &&& 255) (1 : Int32) T7.heap n0 sz7 RR7 g_b5 (by decide)) hZ (hw _ (List.mem_of_getElem? (i := 18) rfl)) (hw _ (List.mem_of_getElem? (i := 3) rfl)) (by decide) (by decide)) q9a q9c (g := (mkF m 55 #[iv va, iv vb, iv vc, iv vm, rv b1, rv b5, iv (1 : Int32)] [(.ref b5), (.int (1 : Int32))])) rfl (by rw [hml]; rfl) (Steps.refl _) (argsL := []) (rest := [(.int (1 : Int32))]) (lenOf pd_4 rfl) rfl (by show 2 * 0 + _ ≤ _; exact Nat.le_of_eq rfl) (hb hby at_55) (fun _ _ => ⟨rfl, e8, (by decide : (((((0 + 1) + 1) + 0) + 0) + 0) + 0 ≤ _), (by decide : (((((0 + 3) + 4) + 0) + 0) + 0) + 0 ≤ _)⟩)
  dsimp only [Pt.U, Pt.locs, Pt.cells, Pt.slots] at X9 l9 y9 z9 st9 hQ9
  subst l9 y9 z9
  obtain ⟨rfl, N9q, Kq9, R9⟩ := hQ9
  have N9 := Fr.app N8 N9q
  have sz9 := Nat.le_trans sz7 Kq9.1
  have RR9 : RD Z T9.heap b5 b1 (own_f va vb vc) (1 : Int32) (own_f va vb vc 0 &&& 255) (2 : Int32) := R9
  have E9 := R9.1
  refine Ends.go (fun _ => st9.trans) ?_
  show Ends p.tables e below G (T9.setTop (mkF m 58 #[iv va, iv vb, iv vc, iv vm, rv b1, rv b5, iv (1 : Int32)] [(.int (bitAt (own_f va vb vc 0 &&& 255) (1 : Int32))), (.int (1 : Int32))]))
  refine Ends.go (fun _ => XS.iloadN X9.here hx rfl (hb hby at_58) rfl) ?_
  show Ends p.tables e below G (T9.setTop (mkF m 59 #[iv va, iv vb, iv vc, iv vm, rv b1, rv b5, iv (1 : Int32)] [(.int va), (.int (bitAt (own_f va vb vc 0 &&& 255) (1 : Int32))), (.int (1 : Int32))]))
  refine Ends.go (fun _ => XS.iconst X9.here hx rfl (hb hby at_59)) ?_
  show Ends p.tables e below G (T9.setTop (mkF m 60 #[iv va, iv vb, iv vc, iv vm, rv b1, rv b5, iv (1 : Int32)] [(.int (1 : Int32)), (.int va), (.int (bitAt (own_f va vb vc 0 &&& 255) (1 : Int32))), (.int (1 : Int32))]))
  obtain ⟨_, _, ⟨T10, L10, k10, n10⟩, -, X10, ⟨Lc10, hQ10, l10, y10, z10⟩, st10⟩ := Jvm.LawKit.callS X9 hx (y := (⟨"com/example/dispatchbook/dispatchbook/amqp/WireReaderBitPinLaw", "bitOf", "(II)Z"⟩ : MethodName)) hown (mvT hZ (hw _ (List.mem_of_getElem? (i := 32) rfl))) (mvT hZ (hw _ (List.mem_of_getElem? (i := 33) rfl))) (mvT hZ (hw _ (List.mem_of_getElem? (i := 34) rfl))) (mvT hZ (hw _ (List.mem_of_getElem? (i := 35) rfl))) (by decide) (backOf (W := 2) (rm6 l Z a0 hw [] va (1 : Int32) T9.heap n0 sz9) hZ (hw _ (List.mem_of_getElem? (i := 35) rfl)) (hw _ (List.mem_of_getElem? (i := 34) rfl)) (by decide) (by decide)) (g := (mkF m 60 #[iv va, iv vb, iv vc, iv vm, rv b1, rv b5, iv (1 : Int32)] [(.int (1 : Int32)), (.int va), (.int (bitAt (own_f va vb vc 0 &&& 255) (1 : Int32))), (.int (1 : Int32))])) rfl (by rw [hml]; rfl) (argsL := [(.int va), (.int (1 : Int32))]) (rest := [(.int (bitAt (own_f va vb vc 0 &&& 255) (1 : Int32))), (.int (1 : Int32))]) (lenOf pd_5 rfl) rfl (by show 2 * 0 + _ ≤ _; exact Nat.le_of_eq rfl) (hb hby at_60) (fun _ _ => ⟨rfl, rfl, (by decide : ((((((0 + 1) + 1) + 0) + 0) + 0) + 0) + 0 ≤ _), (by decide : ((((((0 + 3) + 4) + 0) + 0) + 0) + 0) + 0 ≤ _)⟩)
  dsimp only [Pt.U, Pt.locs, Pt.cells, Pt.slots] at X10 l10 y10 z10 st10 hQ10
  subst l10 y10 z10
  obtain ⟨rfl, N10q, e10⟩ := hQ10
  have N10 := Fr.app N9 N10q
  refine Ends.go (fun _ => st10 _) ?_
  show Ends p.tables e below G (T10.setTop (mkF m 63 #[iv va, iv vb, iv vc, iv vm, rv b1, rv b5, iv (1 : Int32)] [(.int (bitAt va (1 : Int32))), (.int (bitAt (own_f va vb vc 0 &&& 255) (1 : Int32))), (.int (1 : Int32))]))
  refine Ends.go (fun _ => XS.icmpNo X10.here hx rfl (hb hby at_63) rfl (teq (own_bk0 va vb vc ⟨1, by decide⟩ : (bitAt (own_f va vb vc 0 &&& 255) (1 : Int32)) = (bitAt va (1 : Int32)))).2) ?_
  show Ends p.tables e below G (T10.setTop (mkF m 66 #[iv va, iv vb, iv vc, iv vm, rv b1, rv b5, iv (1 : Int32)] [(.int (1 : Int32))]))
  refine Ends.go (fun _ => XS.iconst X10.here hx rfl (hb hby at_66)) ?_
  show Ends p.tables e below G (T10.setTop (mkF m 67 #[iv va, iv vb, iv vc, iv vm, rv b1, rv b5, iv (1 : Int32)] [(.int (1 : Int32)), (.int (1 : Int32))]))
  refine Ends.go (fun _ => XS.goto X10.here hx rfl (pc0 := 67) (pc' := 71) rfl (hb hby at_67) (by decide) (by decide)) ?_
  show Ends p.tables e below G (T10.setTop (mkF m 71 #[iv va, iv vb, iv vc, iv vm, rv b1, rv b5, iv (1 : Int32)] [(.int (1 : Int32)), (.int (1 : Int32))]))
  refine Ends.go (fun _ => XS.iand X10.here hx rfl (hb hby at_71) rfl) ?_
  show Ends p.tables e below G (T10.setTop (mkF m 72 #[iv va, iv vb, iv vc, iv vm, rv b1, rv b5, iv (1 : Int32)] [(.int ((1 : Int32) &&& (1 : Int32)))]))
  refine Ends.go (fun _ => XS.istore X10.here hx rfl (hb hby at_72) rfl (l' := #[iv va, iv vb, iv vc, iv vm, rv b1, rv b5, iv ((1 : Int32) &&& (1 : Int32))]) rfl) ?_
  show Ends p.tables e below G (T10.setTop (mkF m 74 #[iv va, iv vb, iv vc, iv vm, rv b1, rv b5, iv ((1 : Int32) &&& (1 : Int32))] []))
  refine Ends.go (fun _ => XS.iload X10.here hx rfl (hb hby at_74) rfl) ?_
  show Ends p.tables e below G (T10.setTop (mkF m 76 #[iv va, iv vb, iv vc, iv vm, rv b1, rv b5, iv ((1 : Int32) &&& (1 : Int32))] [(.int ((1 : Int32) &&& (1 : Int32)))]))
  refine Ends.go (fun _ => XS.aload X10.here hx rfl (hb hby at_76) rfl rfl) ?_
  show Ends p.tables e below G (T10.setTop (mkF m 78 #[iv va, iv vb, iv vc, iv vm, rv b1, rv b5, iv ((1 : Int32) &&& (1 : Int32))] [(.ref b5), (.int ((1 : Int32) &&& (1 : Int32)))]))
  obtain ⟨cq11, kq11, q11a, q11b, q11c⟩ := isOf hZ e10 E9
  obtain ⟨_, _, ⟨T11, L11, k11, n11⟩, -, X11, ⟨Lc11, hQ11, l11, y11, z11⟩, st11⟩ := X10.virtualBack hx (y := (⟨"com/example/dispatchbook/dispatchbook/amqp/WireReader", "bit", "()Z"⟩ : MethodName)) (z := (⟨"com/example/dispatchbook/dispatchbook/amqp/WireReader", "bit", "()Z"⟩ : MethodName)) hown (mvT hZ (hw _ (List.mem_of_getElem? (i := 14) rfl))) (mvT hZ (hw _ (List.mem_of_getElem? (i := 15) rfl))) (notFace_of_selects (args := #[]) (mvT hZ (hw _ (List.mem_of_getElem? (i := 17) rfl)))) (mvT hZ (hw _ (List.mem_of_getElem? (i := 17) rfl))) (mvT hZ (hw _ (List.mem_of_getElem? (i := 16) rfl))) (by decide) (backOf (W := 1) (rm3b l Z a0 hw [] b5 b1 (own_f va vb vc) (1 : Int32) (own_f va vb vc 0 &&& 255) (2 : Int32) T9.heap n0 sz9 RR9 g_b5 (by decide)) hZ (hw _ (List.mem_of_getElem? (i := 18) rfl)) (hw _ (List.mem_of_getElem? (i := 3) rfl)) (by decide) (by decide)) q11a q11c (g := (mkF m 78 #[iv va, iv vb, iv vc, iv vm, rv b1, rv b5, iv ((1 : Int32) &&& (1 : Int32))] [(.ref b5), (.int ((1 : Int32) &&& (1 : Int32)))])) rfl (by rw [hml]; rfl) (Steps.refl _) (argsL := []) (rest := [(.int ((1 : Int32) &&& (1 : Int32)))]) (lenOf pd_4 rfl) rfl (by show 2 * 0 + _ ≤ _; exact Nat.le_of_eq rfl) (hb hby at_78) (fun _ _ => ⟨rfl, e10, (by decide : (((((((0 + 1) + 1) + 0) + 0) + 0) + 0) + 0) + 0 ≤ _), (by decide : (((((((0 + 3) + 4) + 0) + 0) + 0) + 0) + 0) + 0 ≤ _)⟩)
  dsimp only [Pt.U, Pt.locs, Pt.cells, Pt.slots] at X11 l11 y11 z11 st11 hQ11
  subst l11 y11 z11
  obtain ⟨rfl, N11q, Kq11, R11⟩ := hQ11
  have N11 := Fr.app N10 N11q
  have sz11 := Nat.le_trans sz9 Kq11.1
  have RR11 : RD Z T11.heap b5 b1 (own_f va vb vc) (1 : Int32) (own_f va vb vc 0 &&& 255) (3 : Int32) := R11
  have E11 := R11.1
  refine Ends.go (fun _ => st11.trans) ?_
  show Ends p.tables e below G (T11.setTop (mkF m 81 #[iv va, iv vb, iv vc, iv vm, rv b1, rv b5, iv ((1 : Int32) &&& (1 : Int32))] [(.int (bitAt (own_f va vb vc 0 &&& 255) (2 : Int32))), (.int ((1 : Int32) &&& (1 : Int32)))]))
  refine Ends.go (fun _ => XS.iloadN X11.here hx rfl (hb hby at_81) rfl) ?_
  show Ends p.tables e below G (T11.setTop (mkF m 82 #[iv va, iv vb, iv vc, iv vm, rv b1, rv b5, iv ((1 : Int32) &&& (1 : Int32))] [(.int va), (.int (bitAt (own_f va vb vc 0 &&& 255) (2 : Int32))), (.int ((1 : Int32) &&& (1 : Int32)))]))
  refine Ends.go (fun _ => XS.iconst X11.here hx rfl (hb hby at_82)) ?_
  show Ends p.tables e below G (T11.setTop (mkF m 83 #[iv va, iv vb, iv vc, iv vm, rv b1, rv b5, iv ((1 : Int32) &&& (1 : Int32))] [(.int (2 : Int32)), (.int va), (.int (bitAt (own_f va vb vc 0 &&& 255) (2 : Int32))), (.int ((1 : Int32) &&& (1 : Int32)))]))
  obtain ⟨_, _, ⟨T12, L12, k12, n12⟩, -, X12, ⟨Lc12, hQ12, l12, y12, z12⟩, st12⟩ := Jvm.LawKit.callS X11 hx (y := (⟨"com/example/dispatchbook/dispatchbook/amqp/WireReaderBitPinLaw", "bitOf", "(II)Z"⟩ : MethodName)) hown (mvT hZ (hw _ (List.mem_of_getElem? (i := 32) rfl))) (mvT hZ (hw _ (List.mem_of_getElem? (i := 33) rfl))) (mvT hZ (hw _ (List.mem_of_getElem? (i := 34) rfl))) (mvT hZ (hw _ (List.mem_of_getElem? (i := 35) rfl))) (by decide) (backOf (W := 2) (rm6 l Z a0 hw [] va (2 : Int32) T11.heap n0 sz11) hZ (hw _ (List.mem_of_getElem? (i := 35) rfl)) (hw _ (List.mem_of_getElem? (i := 34) rfl)) (by decide) (by decide)) (g := (mkF m 83 #[iv va, iv vb, iv vc, iv vm, rv b1, rv b5, iv ((1 : Int32) &&& (1 : Int32))] [(.int (2 : Int32)), (.int va), (.int (bitAt (own_f va vb vc 0 &&& 255) (2 : Int32))), (.int ((1 : Int32) &&& (1 : Int32)))])) rfl (by rw [hml]; rfl) (argsL := [(.int va), (.int (2 : Int32))]) (rest := [(.int (bitAt (own_f va vb vc 0 &&& 255) (2 : Int32))), (.int ((1 : Int32) &&& (1 : Int32)))]) (lenOf pd_5 rfl) rfl (by show 2 * 0 + _ ≤ _; exact Nat.le_of_eq rfl) (hb hby at_83) (fun _ _ => ⟨rfl, rfl, (by decide : ((((((((0 + 1) + 1) + 0) + 0) + 0) + 0) + 0) + 0) + 0 ≤ _), (by decide : ((((((((0 + 3) + 4) + 0) + 0) + 0) + 0) + 0) + 0) + 0 ≤ _)⟩)
  dsimp only [Pt.U, Pt.locs, Pt.cells, Pt.slots] at X12 l12 y12 z12 st12 hQ12
  subst l12 y12 z12
  obtain ⟨rfl, N12q, e12⟩ := hQ12
  have N12 := Fr.app N11 N12q
  refine Ends.go (fun _ => st12 _) ?_
  show Ends p.tables e below G (T12.setTop (mkF m 86 #[iv va, iv vb, iv vc, iv vm, rv b1, rv b5, iv ((1 : Int32) &&& (1 : Int32))] [(.int (bitAt va (2 : Int32))), (.int (bitAt (own_f va vb vc 0 &&& 255) (2 : Int32))), (.int ((1 : Int32) &&& (1 : Int32)))]))
  refine Ends.go (fun _ => XS.icmpNo X12.here hx rfl (hb hby at_86) rfl (teq (own_bk0 va vb vc ⟨2, by decide⟩ : (bitAt (own_f va vb vc 0 &&& 255) (2 : Int32)) = (bitAt va (2 : Int32)))).2) ?_
  show Ends p.tables e below G (T12.setTop (mkF m 89 #[iv va, iv vb, iv vc, iv vm, rv b1, rv b5, iv ((1 : Int32) &&& (1 : Int32))] [(.int ((1 : Int32) &&& (1 : Int32)))]))
  refine Ends.go (fun _ => XS.iconst X12.here hx rfl (hb hby at_89)) ?_
  show Ends p.tables e below G (T12.setTop (mkF m 90 #[iv va, iv vb, iv vc, iv vm, rv b1, rv b5, iv ((1 : Int32) &&& (1 : Int32))] [(.int (1 : Int32)), (.int ((1 : Int32) &&& (1 : Int32)))]))
  refine Ends.go (fun _ => XS.goto X12.here hx rfl (pc0 := 90) (pc' := 94) rfl (hb hby at_90) (by decide) (by decide)) ?_
  show Ends p.tables e below G (T12.setTop (mkF m 94 #[iv va, iv vb, iv vc, iv vm, rv b1, rv b5, iv ((1 : Int32) &&& (1 : Int32))] [(.int (1 : Int32)), (.int ((1 : Int32) &&& (1 : Int32)))]))
  refine Ends.go (fun _ => XS.iand X12.here hx rfl (hb hby at_94) rfl) ?_
  show Ends p.tables e below G (T12.setTop (mkF m 95 #[iv va, iv vb, iv vc, iv vm, rv b1, rv b5, iv ((1 : Int32) &&& (1 : Int32))] [(.int (((1 : Int32) &&& (1 : Int32)) &&& (1 : Int32)))]))
  refine Ends.go (fun _ => XS.istore X12.here hx rfl (hb hby at_95) rfl (l' := #[iv va, iv vb, iv vc, iv vm, rv b1, rv b5, iv (((1 : Int32) &&& (1 : Int32)) &&& (1 : Int32))]) rfl) ?_
  show Ends p.tables e below G (T12.setTop (mkF m 97 #[iv va, iv vb, iv vc, iv vm, rv b1, rv b5, iv (((1 : Int32) &&& (1 : Int32)) &&& (1 : Int32))] []))
  refine Ends.go (fun _ => XS.iload X12.here hx rfl (hb hby at_97) rfl) ?_
  show Ends p.tables e below G (T12.setTop (mkF m 99 #[iv va, iv vb, iv vc, iv vm, rv b1, rv b5, iv (((1 : Int32) &&& (1 : Int32)) &&& (1 : Int32))] [(.int (((1 : Int32) &&& (1 : Int32)) &&& (1 : Int32)))]))
  refine Ends.go (fun _ => XS.aload X12.here hx rfl (hb hby at_99) rfl rfl) ?_
  show Ends p.tables e below G (T12.setTop (mkF m 101 #[iv va, iv vb, iv vc, iv vm, rv b1, rv b5, iv (((1 : Int32) &&& (1 : Int32)) &&& (1 : Int32))] [(.ref b5), (.int (((1 : Int32) &&& (1 : Int32)) &&& (1 : Int32)))]))
  obtain ⟨cq13, kq13, q13a, q13b, q13c⟩ := isOf hZ e12 E11
  obtain ⟨_, _, ⟨T13, L13, k13, n13⟩, -, X13, ⟨Lc13, hQ13, l13, y13, z13⟩, st13⟩ := X12.virtualBack hx (y := (⟨"com/example/dispatchbook/dispatchbook/amqp/WireReader", "bit", "()Z"⟩ : MethodName)) (z := (⟨"com/example/dispatchbook/dispatchbook/amqp/WireReader", "bit", "()Z"⟩ : MethodName)) hown (mvT hZ (hw _ (List.mem_of_getElem? (i := 14) rfl))) (mvT hZ (hw _ (List.mem_of_getElem? (i := 15) rfl))) (notFace_of_selects (args := #[]) (mvT hZ (hw _ (List.mem_of_getElem? (i := 17) rfl)))) (mvT hZ (hw _ (List.mem_of_getElem? (i := 17) rfl))) (mvT hZ (hw _ (List.mem_of_getElem? (i := 16) rfl))) (by decide) (backOf (W := 1) (rm3b l Z a0 hw [] b5 b1 (own_f va vb vc) (1 : Int32) (own_f va vb vc 0 &&& 255) (3 : Int32) T11.heap n0 sz11 RR11 g_b5 (by decide)) hZ (hw _ (List.mem_of_getElem? (i := 18) rfl)) (hw _ (List.mem_of_getElem? (i := 3) rfl)) (by decide) (by decide)) q13a q13c (g := (mkF m 101 #[iv va, iv vb, iv vc, iv vm, rv b1, rv b5, iv (((1 : Int32) &&& (1 : Int32)) &&& (1 : Int32))] [(.ref b5), (.int (((1 : Int32) &&& (1 : Int32)) &&& (1 : Int32)))])) rfl (by rw [hml]; rfl) (Steps.refl _) (argsL := []) (rest := [(.int (((1 : Int32) &&& (1 : Int32)) &&& (1 : Int32)))]) (lenOf pd_4 rfl) rfl (by show 2 * 0 + _ ≤ _; exact Nat.le_of_eq rfl) (hb hby at_101) (fun _ _ => ⟨rfl, e12, (by decide : (((((((((0 + 1) + 1) + 0) + 0) + 0) + 0) + 0) + 0) + 0) + 0 ≤ _), (by decide : (((((((((0 + 3) + 4) + 0) + 0) + 0) + 0) + 0) + 0) + 0) + 0 ≤ _)⟩)
  dsimp only [Pt.U, Pt.locs, Pt.cells, Pt.slots] at X13 l13 y13 z13 st13 hQ13
  subst l13 y13 z13
  obtain ⟨rfl, N13q, Kq13, R13⟩ := hQ13
  have N13 := Fr.app N12 N13q
  have sz13 := Nat.le_trans sz11 Kq13.1
  have RR13 : RD Z T13.heap b5 b1 (own_f va vb vc) (1 : Int32) (own_f va vb vc 0 &&& 255) (4 : Int32) := R13
  have E13 := R13.1
  refine Ends.go (fun _ => st13.trans) ?_
  show Ends p.tables e below G (T13.setTop (mkF m 104 #[iv va, iv vb, iv vc, iv vm, rv b1, rv b5, iv (((1 : Int32) &&& (1 : Int32)) &&& (1 : Int32))] [(.int (bitAt (own_f va vb vc 0 &&& 255) (3 : Int32))), (.int (((1 : Int32) &&& (1 : Int32)) &&& (1 : Int32)))]))
  refine Ends.go (fun _ => XS.iloadN X13.here hx rfl (hb hby at_104) rfl) ?_
  show Ends p.tables e below G (T13.setTop (mkF m 105 #[iv va, iv vb, iv vc, iv vm, rv b1, rv b5, iv (((1 : Int32) &&& (1 : Int32)) &&& (1 : Int32))] [(.int va), (.int (bitAt (own_f va vb vc 0 &&& 255) (3 : Int32))), (.int (((1 : Int32) &&& (1 : Int32)) &&& (1 : Int32)))]))
  refine Ends.go (fun _ => XS.iconst X13.here hx rfl (hb hby at_105)) ?_
  show Ends p.tables e below G (T13.setTop (mkF m 106 #[iv va, iv vb, iv vc, iv vm, rv b1, rv b5, iv (((1 : Int32) &&& (1 : Int32)) &&& (1 : Int32))] [(.int (3 : Int32)), (.int va), (.int (bitAt (own_f va vb vc 0 &&& 255) (3 : Int32))), (.int (((1 : Int32) &&& (1 : Int32)) &&& (1 : Int32)))]))
  obtain ⟨_, _, ⟨T14, L14, k14, n14⟩, -, X14, ⟨Lc14, hQ14, l14, y14, z14⟩, st14⟩ := Jvm.LawKit.callS X13 hx (y := (⟨"com/example/dispatchbook/dispatchbook/amqp/WireReaderBitPinLaw", "bitOf", "(II)Z"⟩ : MethodName)) hown (mvT hZ (hw _ (List.mem_of_getElem? (i := 32) rfl))) (mvT hZ (hw _ (List.mem_of_getElem? (i := 33) rfl))) (mvT hZ (hw _ (List.mem_of_getElem? (i := 34) rfl))) (mvT hZ (hw _ (List.mem_of_getElem? (i := 35) rfl))) (by decide) (backOf (W := 2) (rm6 l Z a0 hw [] va (3 : Int32) T13.heap n0 sz13) hZ (hw _ (List.mem_of_getElem? (i := 35) rfl)) (hw _ (List.mem_of_getElem? (i := 34) rfl)) (by decide) (by decide)) (g := (mkF m 106 #[iv va, iv vb, iv vc, iv vm, rv b1, rv b5, iv (((1 : Int32) &&& (1 : Int32)) &&& (1 : Int32))] [(.int (3 : Int32)), (.int va), (.int (bitAt (own_f va vb vc 0 &&& 255) (3 : Int32))), (.int (((1 : Int32) &&& (1 : Int32)) &&& (1 : Int32)))])) rfl (by rw [hml]; rfl) (argsL := [(.int va), (.int (3 : Int32))]) (rest := [(.int (bitAt (own_f va vb vc 0 &&& 255) (3 : Int32))), (.int (((1 : Int32) &&& (1 : Int32)) &&& (1 : Int32)))]) (lenOf pd_5 rfl) rfl (by show 2 * 0 + _ ≤ _; exact Nat.le_of_eq rfl) (hb hby at_106) (fun _ _ => ⟨rfl, rfl, (by decide : ((((((((((0 + 1) + 1) + 0) + 0) + 0) + 0) + 0) + 0) + 0) + 0) + 0 ≤ _), (by decide : ((((((((((0 + 3) + 4) + 0) + 0) + 0) + 0) + 0) + 0) + 0) + 0) + 0 ≤ _)⟩)
  dsimp only [Pt.U, Pt.locs, Pt.cells, Pt.slots] at X14 l14 y14 z14 st14 hQ14
  subst l14 y14 z14
  obtain ⟨rfl, N14q, e14⟩ := hQ14
  have N14 := Fr.app N13 N14q
  refine Ends.go (fun _ => st14 _) ?_
  show Ends p.tables e below G (T14.setTop (mkF m 109 #[iv va, iv vb, iv vc, iv vm, rv b1, rv b5, iv (((1 : Int32) &&& (1 : Int32)) &&& (1 : Int32))] [(.int (bitAt va (3 : Int32))), (.int (bitAt (own_f va vb vc 0 &&& 255) (3 : Int32))), (.int (((1 : Int32) &&& (1 : Int32)) &&& (1 : Int32)))]))
  refine Ends.go (fun _ => XS.icmpNo X14.here hx rfl (hb hby at_109) rfl (teq (own_bk0 va vb vc ⟨3, by decide⟩ : (bitAt (own_f va vb vc 0 &&& 255) (3 : Int32)) = (bitAt va (3 : Int32)))).2) ?_
  show Ends p.tables e below G (T14.setTop (mkF m 112 #[iv va, iv vb, iv vc, iv vm, rv b1, rv b5, iv (((1 : Int32) &&& (1 : Int32)) &&& (1 : Int32))] [(.int (((1 : Int32) &&& (1 : Int32)) &&& (1 : Int32)))]))
  refine Ends.go (fun _ => XS.iconst X14.here hx rfl (hb hby at_112)) ?_
  show Ends p.tables e below G (T14.setTop (mkF m 113 #[iv va, iv vb, iv vc, iv vm, rv b1, rv b5, iv (((1 : Int32) &&& (1 : Int32)) &&& (1 : Int32))] [(.int (1 : Int32)), (.int (((1 : Int32) &&& (1 : Int32)) &&& (1 : Int32)))]))
  refine Ends.go (fun _ => XS.goto X14.here hx rfl (pc0 := 113) (pc' := 117) rfl (hb hby at_113) (by decide) (by decide)) ?_
  show Ends p.tables e below G (T14.setTop (mkF m 117 #[iv va, iv vb, iv vc, iv vm, rv b1, rv b5, iv (((1 : Int32) &&& (1 : Int32)) &&& (1 : Int32))] [(.int (1 : Int32)), (.int (((1 : Int32) &&& (1 : Int32)) &&& (1 : Int32)))]))
  refine Ends.go (fun _ => XS.iand X14.here hx rfl (hb hby at_117) rfl) ?_
  show Ends p.tables e below G (T14.setTop (mkF m 118 #[iv va, iv vb, iv vc, iv vm, rv b1, rv b5, iv (((1 : Int32) &&& (1 : Int32)) &&& (1 : Int32))] [(.int ((((1 : Int32) &&& (1 : Int32)) &&& (1 : Int32)) &&& (1 : Int32)))]))
  refine Ends.go (fun _ => XS.istore X14.here hx rfl (hb hby at_118) rfl (l' := #[iv va, iv vb, iv vc, iv vm, rv b1, rv b5, iv ((((1 : Int32) &&& (1 : Int32)) &&& (1 : Int32)) &&& (1 : Int32))]) rfl) ?_
  show Ends p.tables e below G (T14.setTop (mkF m 120 #[iv va, iv vb, iv vc, iv vm, rv b1, rv b5, iv ((((1 : Int32) &&& (1 : Int32)) &&& (1 : Int32)) &&& (1 : Int32))] []))
  refine Ends.go (fun _ => XS.iloadN X14.here hx rfl (hb hby at_120) rfl) ?_
  show Ends p.tables e below G (T14.setTop (mkF m 121 #[iv va, iv vb, iv vc, iv vm, rv b1, rv b5, iv ((((1 : Int32) &&& (1 : Int32)) &&& (1 : Int32)) &&& (1 : Int32))] [(.int vm)]))
  refine Ends.go (fun _ => XS.iconst X14.here hx rfl (hb hby at_121)) ?_
  show Ends p.tables e below G (T14.setTop (mkF m 122 #[iv va, iv vb, iv vc, iv vm, rv b1, rv b5, iv ((((1 : Int32) &&& (1 : Int32)) &&& (1 : Int32)) &&& (1 : Int32))] [(.int (1 : Int32)), (.int vm)]))
  refine Ends.go (fun _ => XS.iand X14.here hx rfl (hb hby at_122) rfl) ?_
  show Ends p.tables e below G (T14.setTop (mkF m 123 #[iv va, iv vb, iv vc, iv vm, rv b1, rv b5, iv ((((1 : Int32) &&& (1 : Int32)) &&& (1 : Int32)) &&& (1 : Int32))] [(.int (vm &&& (1 : Int32)))]))
  by_cases hm : (vm &&& (1 : Int32)) = (0 : Int32)
  · refine Ends.go (fun _ => XS.ifYes X14.here hx rfl (pc0 := 123) (pc' := 198) rfl (hb hby at_123) rfl ((if0 _ _).trans (teq (hm : (vm &&& (1 : Int32)) = (0 : Int32))).1) (by decide) (by decide)) ?_
    show Ends p.tables e below G (T14.setTop (mkF m 198 #[iv va, iv vb, iv vc, iv vm, rv b1, rv b5, iv ((((1 : Int32) &&& (1 : Int32)) &&& (1 : Int32)) &&& (1 : Int32))] []))
    refine Ends.go (fun _ => XS.iload X14.here hx rfl (hb hby at_198) rfl) ?_
    show Ends p.tables e below G (T14.setTop (mkF m 200 #[iv va, iv vb, iv vc, iv vm, rv b1, rv b5, iv ((((1 : Int32) &&& (1 : Int32)) &&& (1 : Int32)) &&& (1 : Int32))] [(.int ((((1 : Int32) &&& (1 : Int32)) &&& (1 : Int32)) &&& (1 : Int32)))]))
    refine Ends.go (fun _ => XS.aload X14.here hx rfl (hb hby at_200) rfl rfl) ?_
    show Ends p.tables e below G (T14.setTop (mkF m 202 #[iv va, iv vb, iv vc, iv vm, rv b1, rv b5, iv ((((1 : Int32) &&& (1 : Int32)) &&& (1 : Int32)) &&& (1 : Int32))] [(.ref b5), (.int ((((1 : Int32) &&& (1 : Int32)) &&& (1 : Int32)) &&& (1 : Int32)))]))
    obtain ⟨cq15, kq15, q15a, q15b, q15c⟩ := isOf hZ e14 E13
    obtain ⟨_, _, ⟨T15, L15, k15, n15⟩, -, X15, ⟨Lc15, hQ15, l15, y15, z15⟩, st15⟩ := X14.virtualBack hx (y := (⟨"com/example/dispatchbook/dispatchbook/amqp/WireReader", "bit", "()Z"⟩ : MethodName)) (z := (⟨"com/example/dispatchbook/dispatchbook/amqp/WireReader", "bit", "()Z"⟩ : MethodName)) hown (mvT hZ (hw _ (List.mem_of_getElem? (i := 14) rfl))) (mvT hZ (hw _ (List.mem_of_getElem? (i := 15) rfl))) (notFace_of_selects (args := #[]) (mvT hZ (hw _ (List.mem_of_getElem? (i := 17) rfl)))) (mvT hZ (hw _ (List.mem_of_getElem? (i := 17) rfl))) (mvT hZ (hw _ (List.mem_of_getElem? (i := 16) rfl))) (by decide) (backOf (W := 1) (rm3b l Z a0 hw [] b5 b1 (own_f va vb vc) (1 : Int32) (own_f va vb vc 0 &&& 255) (4 : Int32) T13.heap n0 sz13 RR13 g_b5 (by decide)) hZ (hw _ (List.mem_of_getElem? (i := 18) rfl)) (hw _ (List.mem_of_getElem? (i := 3) rfl)) (by decide) (by decide)) q15a q15c (g := (mkF m 202 #[iv va, iv vb, iv vc, iv vm, rv b1, rv b5, iv ((((1 : Int32) &&& (1 : Int32)) &&& (1 : Int32)) &&& (1 : Int32))] [(.ref b5), (.int ((((1 : Int32) &&& (1 : Int32)) &&& (1 : Int32)) &&& (1 : Int32)))])) rfl (by rw [hml]; rfl) (Steps.refl _) (argsL := []) (rest := [(.int ((((1 : Int32) &&& (1 : Int32)) &&& (1 : Int32)) &&& (1 : Int32)))]) (lenOf pd_4 rfl) rfl (by show 2 * 0 + _ ≤ _; exact Nat.le_of_eq rfl) (hb hby at_202) (fun _ _ => ⟨rfl, e14, (by decide : (((((((((((0 + 1) + 1) + 0) + 0) + 0) + 0) + 0) + 0) + 0) + 0) + 0) + 0 ≤ _), (by decide : (((((((((((0 + 3) + 4) + 0) + 0) + 0) + 0) + 0) + 0) + 0) + 0) + 0) + 0 ≤ _)⟩)
    dsimp only [Pt.U, Pt.locs, Pt.cells, Pt.slots] at X15 l15 y15 z15 st15 hQ15
    subst l15 y15 z15
    obtain ⟨rfl, N15q, Kq15, R15⟩ := hQ15
    have N15 := Fr.app N14 N15q
    have sz15 := Nat.le_trans sz13 Kq15.1
    have RR15 : RD Z T15.heap b5 b1 (own_f va vb vc) (1 : Int32) (own_f va vb vc 0 &&& 255) (5 : Int32) := R15
    have E15 := R15.1
    refine Ends.go (fun _ => st15.trans) ?_
    show Ends p.tables e below G (T15.setTop (mkF m 205 #[iv va, iv vb, iv vc, iv vm, rv b1, rv b5, iv ((((1 : Int32) &&& (1 : Int32)) &&& (1 : Int32)) &&& (1 : Int32))] [(.int (bitAt (own_f va vb vc 0 &&& 255) (4 : Int32))), (.int ((((1 : Int32) &&& (1 : Int32)) &&& (1 : Int32)) &&& (1 : Int32)))]))
    refine Ends.go (fun _ => XS.iloadN X15.here hx rfl (hb hby at_205) rfl) ?_
    show Ends p.tables e below G (T15.setTop (mkF m 206 #[iv va, iv vb, iv vc, iv vm, rv b1, rv b5, iv ((((1 : Int32) &&& (1 : Int32)) &&& (1 : Int32)) &&& (1 : Int32))] [(.int va), (.int (bitAt (own_f va vb vc 0 &&& 255) (4 : Int32))), (.int ((((1 : Int32) &&& (1 : Int32)) &&& (1 : Int32)) &&& (1 : Int32)))]))
    refine Ends.go (fun _ => XS.iconst X15.here hx rfl (hb hby at_206)) ?_
    show Ends p.tables e below G (T15.setTop (mkF m 207 #[iv va, iv vb, iv vc, iv vm, rv b1, rv b5, iv ((((1 : Int32) &&& (1 : Int32)) &&& (1 : Int32)) &&& (1 : Int32))] [(.int (4 : Int32)), (.int va), (.int (bitAt (own_f va vb vc 0 &&& 255) (4 : Int32))), (.int ((((1 : Int32) &&& (1 : Int32)) &&& (1 : Int32)) &&& (1 : Int32)))]))
    obtain ⟨_, _, ⟨T16, L16, k16, n16⟩, -, X16, ⟨Lc16, hQ16, l16, y16, z16⟩, st16⟩ := Jvm.LawKit.callS X15 hx (y := (⟨"com/example/dispatchbook/dispatchbook/amqp/WireReaderBitPinLaw", "bitOf", "(II)Z"⟩ : MethodName)) hown (mvT hZ (hw _ (List.mem_of_getElem? (i := 32) rfl))) (mvT hZ (hw _ (List.mem_of_getElem? (i := 33) rfl))) (mvT hZ (hw _ (List.mem_of_getElem? (i := 34) rfl))) (mvT hZ (hw _ (List.mem_of_getElem? (i := 35) rfl))) (by decide) (backOf (W := 2) (rm6 l Z a0 hw [] va (4 : Int32) T15.heap n0 sz15) hZ (hw _ (List.mem_of_getElem? (i := 35) rfl)) (hw _ (List.mem_of_getElem? (i := 34) rfl)) (by decide) (by decide)) (g := (mkF m 207 #[iv va, iv vb, iv vc, iv vm, rv b1, rv b5, iv ((((1 : Int32) &&& (1 : Int32)) &&& (1 : Int32)) &&& (1 : Int32))] [(.int (4 : Int32)), (.int va), (.int (bitAt (own_f va vb vc 0 &&& 255) (4 : Int32))), (.int ((((1 : Int32) &&& (1 : Int32)) &&& (1 : Int32)) &&& (1 : Int32)))])) rfl (by rw [hml]; rfl) (argsL := [(.int va), (.int (4 : Int32))]) (rest := [(.int (bitAt (own_f va vb vc 0 &&& 255) (4 : Int32))), (.int ((((1 : Int32) &&& (1 : Int32)) &&& (1 : Int32)) &&& (1 : Int32)))]) (lenOf pd_5 rfl) rfl (by show 2 * 0 + _ ≤ _; exact Nat.le_of_eq rfl) (hb hby at_207) (fun _ _ => ⟨rfl, rfl, (by decide : ((((((((((((0 + 1) + 1) + 0) + 0) + 0) + 0) + 0) + 0) + 0) + 0) + 0) + 0) + 0 ≤ _), (by decide : ((((((((((((0 + 3) + 4) + 0) + 0) + 0) + 0) + 0) + 0) + 0) + 0) + 0) + 0) + 0 ≤ _)⟩)
    dsimp only [Pt.U, Pt.locs, Pt.cells, Pt.slots] at X16 l16 y16 z16 st16 hQ16
    subst l16 y16 z16
    obtain ⟨rfl, N16q, e16⟩ := hQ16
    have N16 := Fr.app N15 N16q
    refine Ends.go (fun _ => st16 _) ?_
    show Ends p.tables e below G (T16.setTop (mkF m 210 #[iv va, iv vb, iv vc, iv vm, rv b1, rv b5, iv ((((1 : Int32) &&& (1 : Int32)) &&& (1 : Int32)) &&& (1 : Int32))] [(.int (bitAt va (4 : Int32))), (.int (bitAt (own_f va vb vc 0 &&& 255) (4 : Int32))), (.int ((((1 : Int32) &&& (1 : Int32)) &&& (1 : Int32)) &&& (1 : Int32)))]))
    refine Ends.go (fun _ => XS.icmpNo X16.here hx rfl (hb hby at_210) rfl (teq (own_bk0 va vb vc ⟨4, by decide⟩ : (bitAt (own_f va vb vc 0 &&& 255) (4 : Int32)) = (bitAt va (4 : Int32)))).2) ?_
    show Ends p.tables e below G (T16.setTop (mkF m 213 #[iv va, iv vb, iv vc, iv vm, rv b1, rv b5, iv ((((1 : Int32) &&& (1 : Int32)) &&& (1 : Int32)) &&& (1 : Int32))] [(.int ((((1 : Int32) &&& (1 : Int32)) &&& (1 : Int32)) &&& (1 : Int32)))]))
    refine Ends.go (fun _ => XS.iconst X16.here hx rfl (hb hby at_213)) ?_
    show Ends p.tables e below G (T16.setTop (mkF m 214 #[iv va, iv vb, iv vc, iv vm, rv b1, rv b5, iv ((((1 : Int32) &&& (1 : Int32)) &&& (1 : Int32)) &&& (1 : Int32))] [(.int (1 : Int32)), (.int ((((1 : Int32) &&& (1 : Int32)) &&& (1 : Int32)) &&& (1 : Int32)))]))
    refine Ends.go (fun _ => XS.goto X16.here hx rfl (pc0 := 214) (pc' := 218) rfl (hb hby at_214) (by decide) (by decide)) ?_
    show Ends p.tables e below G (T16.setTop (mkF m 218 #[iv va, iv vb, iv vc, iv vm, rv b1, rv b5, iv ((((1 : Int32) &&& (1 : Int32)) &&& (1 : Int32)) &&& (1 : Int32))] [(.int (1 : Int32)), (.int ((((1 : Int32) &&& (1 : Int32)) &&& (1 : Int32)) &&& (1 : Int32)))]))
    refine Ends.go (fun _ => XS.iand X16.here hx rfl (hb hby at_218) rfl) ?_
    show Ends p.tables e below G (T16.setTop (mkF m 219 #[iv va, iv vb, iv vc, iv vm, rv b1, rv b5, iv ((((1 : Int32) &&& (1 : Int32)) &&& (1 : Int32)) &&& (1 : Int32))] [(.int (((((1 : Int32) &&& (1 : Int32)) &&& (1 : Int32)) &&& (1 : Int32)) &&& (1 : Int32)))]))
    refine Ends.go (fun _ => XS.istore X16.here hx rfl (hb hby at_219) rfl (l' := #[iv va, iv vb, iv vc, iv vm, rv b1, rv b5, iv (((((1 : Int32) &&& (1 : Int32)) &&& (1 : Int32)) &&& (1 : Int32)) &&& (1 : Int32))]) rfl) ?_
    show Ends p.tables e below G (T16.setTop (mkF m 221 #[iv va, iv vb, iv vc, iv vm, rv b1, rv b5, iv (((((1 : Int32) &&& (1 : Int32)) &&& (1 : Int32)) &&& (1 : Int32)) &&& (1 : Int32))] []))
    refine Ends.go (fun _ => XS.iload X16.here hx rfl (hb hby at_221) rfl) ?_
    show Ends p.tables e below G (T16.setTop (mkF m 223 #[iv va, iv vb, iv vc, iv vm, rv b1, rv b5, iv (((((1 : Int32) &&& (1 : Int32)) &&& (1 : Int32)) &&& (1 : Int32)) &&& (1 : Int32))] [(.int (((((1 : Int32) &&& (1 : Int32)) &&& (1 : Int32)) &&& (1 : Int32)) &&& (1 : Int32)))]))
    refine Ends.go (fun _ => XS.aload X16.here hx rfl (hb hby at_223) rfl rfl) ?_
    show Ends p.tables e below G (T16.setTop (mkF m 225 #[iv va, iv vb, iv vc, iv vm, rv b1, rv b5, iv (((((1 : Int32) &&& (1 : Int32)) &&& (1 : Int32)) &&& (1 : Int32)) &&& (1 : Int32))] [(.ref b5), (.int (((((1 : Int32) &&& (1 : Int32)) &&& (1 : Int32)) &&& (1 : Int32)) &&& (1 : Int32)))]))
    obtain ⟨cq17, kq17, q17a, q17b, q17c⟩ := isOf hZ e16 E15
    obtain ⟨_, _, ⟨T17, L17, k17, n17⟩, -, X17, ⟨Lc17, hQ17, l17, y17, z17⟩, st17⟩ := X16.virtualBack hx (y := (⟨"com/example/dispatchbook/dispatchbook/amqp/WireReader", "bit", "()Z"⟩ : MethodName)) (z := (⟨"com/example/dispatchbook/dispatchbook/amqp/WireReader", "bit", "()Z"⟩ : MethodName)) hown (mvT hZ (hw _ (List.mem_of_getElem? (i := 14) rfl))) (mvT hZ (hw _ (List.mem_of_getElem? (i := 15) rfl))) (notFace_of_selects (args := #[]) (mvT hZ (hw _ (List.mem_of_getElem? (i := 17) rfl)))) (mvT hZ (hw _ (List.mem_of_getElem? (i := 17) rfl))) (mvT hZ (hw _ (List.mem_of_getElem? (i := 16) rfl))) (by decide) (backOf (W := 1) (rm3b l Z a0 hw [] b5 b1 (own_f va vb vc) (1 : Int32) (own_f va vb vc 0 &&& 255) (5 : Int32) T15.heap n0 sz15 RR15 g_b5 (by decide)) hZ (hw _ (List.mem_of_getElem? (i := 18) rfl)) (hw _ (List.mem_of_getElem? (i := 3) rfl)) (by decide) (by decide)) q17a q17c (g := (mkF m 225 #[iv va, iv vb, iv vc, iv vm, rv b1, rv b5, iv (((((1 : Int32) &&& (1 : Int32)) &&& (1 : Int32)) &&& (1 : Int32)) &&& (1 : Int32))] [(.ref b5), (.int (((((1 : Int32) &&& (1 : Int32)) &&& (1 : Int32)) &&& (1 : Int32)) &&& (1 : Int32)))])) rfl (by rw [hml]; rfl) (Steps.refl _) (argsL := []) (rest := [(.int (((((1 : Int32) &&& (1 : Int32)) &&& (1 : Int32)) &&& (1 : Int32)) &&& (1 : Int32)))]) (lenOf pd_4 rfl) rfl (by show 2 * 0 + _ ≤ _; exact Nat.le_of_eq rfl) (hb hby at_225) (fun _ _ => ⟨rfl, e16, (by decide : (((((((((((((0 + 1) + 1) + 0) + 0) + 0) + 0) + 0) + 0) + 0) + 0) + 0) + 0) + 0) + 0 ≤ _), (by decide : (((((((((((((0 + 3) + 4) + 0) + 0) + 0) + 0) + 0) + 0) + 0) + 0) + 0) + 0) + 0) + 0 ≤ _)⟩)
    dsimp only [Pt.U, Pt.locs, Pt.cells, Pt.slots] at X17 l17 y17 z17 st17 hQ17
    subst l17 y17 z17
    obtain ⟨rfl, N17q, Kq17, R17⟩ := hQ17
    have N17 := Fr.app N16 N17q
    have sz17 := Nat.le_trans sz15 Kq17.1
    have RR17 : RD Z T17.heap b5 b1 (own_f va vb vc) (1 : Int32) (own_f va vb vc 0 &&& 255) (6 : Int32) := R17
    have E17 := R17.1
    refine Ends.go (fun _ => st17.trans) ?_
    show Ends p.tables e below G (T17.setTop (mkF m 228 #[iv va, iv vb, iv vc, iv vm, rv b1, rv b5, iv (((((1 : Int32) &&& (1 : Int32)) &&& (1 : Int32)) &&& (1 : Int32)) &&& (1 : Int32))] [(.int (bitAt (own_f va vb vc 0 &&& 255) (5 : Int32))), (.int (((((1 : Int32) &&& (1 : Int32)) &&& (1 : Int32)) &&& (1 : Int32)) &&& (1 : Int32)))]))
    refine Ends.go (fun _ => XS.iloadN X17.here hx rfl (hb hby at_228) rfl) ?_
    show Ends p.tables e below G (T17.setTop (mkF m 229 #[iv va, iv vb, iv vc, iv vm, rv b1, rv b5, iv (((((1 : Int32) &&& (1 : Int32)) &&& (1 : Int32)) &&& (1 : Int32)) &&& (1 : Int32))] [(.int va), (.int (bitAt (own_f va vb vc 0 &&& 255) (5 : Int32))), (.int (((((1 : Int32) &&& (1 : Int32)) &&& (1 : Int32)) &&& (1 : Int32)) &&& (1 : Int32)))]))
    refine Ends.go (fun _ => XS.iconst X17.here hx rfl (hb hby at_229)) ?_
    show Ends p.tables e below G (T17.setTop (mkF m 230 #[iv va, iv vb, iv vc, iv vm, rv b1, rv b5, iv (((((1 : Int32) &&& (1 : Int32)) &&& (1 : Int32)) &&& (1 : Int32)) &&& (1 : Int32))] [(.int (5 : Int32)), (.int va), (.int (bitAt (own_f va vb vc 0 &&& 255) (5 : Int32))), (.int (((((1 : Int32) &&& (1 : Int32)) &&& (1 : Int32)) &&& (1 : Int32)) &&& (1 : Int32)))]))
    obtain ⟨_, _, ⟨T18, L18, k18, n18⟩, -, X18, ⟨Lc18, hQ18, l18, y18, z18⟩, st18⟩ := Jvm.LawKit.callS X17 hx (y := (⟨"com/example/dispatchbook/dispatchbook/amqp/WireReaderBitPinLaw", "bitOf", "(II)Z"⟩ : MethodName)) hown (mvT hZ (hw _ (List.mem_of_getElem? (i := 32) rfl))) (mvT hZ (hw _ (List.mem_of_getElem? (i := 33) rfl))) (mvT hZ (hw _ (List.mem_of_getElem? (i := 34) rfl))) (mvT hZ (hw _ (List.mem_of_getElem? (i := 35) rfl))) (by decide) (backOf (W := 2) (rm6 l Z a0 hw [] va (5 : Int32) T17.heap n0 sz17) hZ (hw _ (List.mem_of_getElem? (i := 35) rfl)) (hw _ (List.mem_of_getElem? (i := 34) rfl)) (by decide) (by decide)) (g := (mkF m 230 #[iv va, iv vb, iv vc, iv vm, rv b1, rv b5, iv (((((1 : Int32) &&& (1 : Int32)) &&& (1 : Int32)) &&& (1 : Int32)) &&& (1 : Int32))] [(.int (5 : Int32)), (.int va), (.int (bitAt (own_f va vb vc 0 &&& 255) (5 : Int32))), (.int (((((1 : Int32) &&& (1 : Int32)) &&& (1 : Int32)) &&& (1 : Int32)) &&& (1 : Int32)))])) rfl (by rw [hml]; rfl) (argsL := [(.int va), (.int (5 : Int32))]) (rest := [(.int (bitAt (own_f va vb vc 0 &&& 255) (5 : Int32))), (.int (((((1 : Int32) &&& (1 : Int32)) &&& (1 : Int32)) &&& (1 : Int32)) &&& (1 : Int32)))]) (lenOf pd_5 rfl) rfl (by show 2 * 0 + _ ≤ _; exact Nat.le_of_eq rfl) (hb hby at_230) (fun _ _ => ⟨rfl, rfl, (by decide : ((((((((((((((0 + 1) + 1) + 0) + 0) + 0) + 0) + 0) + 0) + 0) + 0) + 0) + 0) + 0) + 0) + 0 ≤ _), (by decide : ((((((((((((((0 + 3) + 4) + 0) + 0) + 0) + 0) + 0) + 0) + 0) + 0) + 0) + 0) + 0) + 0) + 0 ≤ _)⟩)
    dsimp only [Pt.U, Pt.locs, Pt.cells, Pt.slots] at X18 l18 y18 z18 st18 hQ18
    subst l18 y18 z18
    obtain ⟨rfl, N18q, e18⟩ := hQ18
    have N18 := Fr.app N17 N18q
    refine Ends.go (fun _ => st18 _) ?_
    show Ends p.tables e below G (T18.setTop (mkF m 233 #[iv va, iv vb, iv vc, iv vm, rv b1, rv b5, iv (((((1 : Int32) &&& (1 : Int32)) &&& (1 : Int32)) &&& (1 : Int32)) &&& (1 : Int32))] [(.int (bitAt va (5 : Int32))), (.int (bitAt (own_f va vb vc 0 &&& 255) (5 : Int32))), (.int (((((1 : Int32) &&& (1 : Int32)) &&& (1 : Int32)) &&& (1 : Int32)) &&& (1 : Int32)))]))
    refine Ends.go (fun _ => XS.icmpNo X18.here hx rfl (hb hby at_233) rfl (teq (own_bk0 va vb vc ⟨5, by decide⟩ : (bitAt (own_f va vb vc 0 &&& 255) (5 : Int32)) = (bitAt va (5 : Int32)))).2) ?_
    show Ends p.tables e below G (T18.setTop (mkF m 236 #[iv va, iv vb, iv vc, iv vm, rv b1, rv b5, iv (((((1 : Int32) &&& (1 : Int32)) &&& (1 : Int32)) &&& (1 : Int32)) &&& (1 : Int32))] [(.int (((((1 : Int32) &&& (1 : Int32)) &&& (1 : Int32)) &&& (1 : Int32)) &&& (1 : Int32)))]))
    refine Ends.go (fun _ => XS.iconst X18.here hx rfl (hb hby at_236)) ?_
    show Ends p.tables e below G (T18.setTop (mkF m 237 #[iv va, iv vb, iv vc, iv vm, rv b1, rv b5, iv (((((1 : Int32) &&& (1 : Int32)) &&& (1 : Int32)) &&& (1 : Int32)) &&& (1 : Int32))] [(.int (1 : Int32)), (.int (((((1 : Int32) &&& (1 : Int32)) &&& (1 : Int32)) &&& (1 : Int32)) &&& (1 : Int32)))]))
    refine Ends.go (fun _ => XS.goto X18.here hx rfl (pc0 := 237) (pc' := 241) rfl (hb hby at_237) (by decide) (by decide)) ?_
    show Ends p.tables e below G (T18.setTop (mkF m 241 #[iv va, iv vb, iv vc, iv vm, rv b1, rv b5, iv (((((1 : Int32) &&& (1 : Int32)) &&& (1 : Int32)) &&& (1 : Int32)) &&& (1 : Int32))] [(.int (1 : Int32)), (.int (((((1 : Int32) &&& (1 : Int32)) &&& (1 : Int32)) &&& (1 : Int32)) &&& (1 : Int32)))]))
    refine Ends.go (fun _ => XS.iand X18.here hx rfl (hb hby at_241) rfl) ?_
    show Ends p.tables e below G (T18.setTop (mkF m 242 #[iv va, iv vb, iv vc, iv vm, rv b1, rv b5, iv (((((1 : Int32) &&& (1 : Int32)) &&& (1 : Int32)) &&& (1 : Int32)) &&& (1 : Int32))] [(.int ((((((1 : Int32) &&& (1 : Int32)) &&& (1 : Int32)) &&& (1 : Int32)) &&& (1 : Int32)) &&& (1 : Int32)))]))
    refine Ends.go (fun _ => XS.istore X18.here hx rfl (hb hby at_242) rfl (l' := #[iv va, iv vb, iv vc, iv vm, rv b1, rv b5, iv ((((((1 : Int32) &&& (1 : Int32)) &&& (1 : Int32)) &&& (1 : Int32)) &&& (1 : Int32)) &&& (1 : Int32))]) rfl) ?_
    show Ends p.tables e below G (T18.setTop (mkF m 244 #[iv va, iv vb, iv vc, iv vm, rv b1, rv b5, iv ((((((1 : Int32) &&& (1 : Int32)) &&& (1 : Int32)) &&& (1 : Int32)) &&& (1 : Int32)) &&& (1 : Int32))] []))
    refine Ends.go (fun _ => XS.iload X18.here hx rfl (hb hby at_244) rfl) ?_
    show Ends p.tables e below G (T18.setTop (mkF m 246 #[iv va, iv vb, iv vc, iv vm, rv b1, rv b5, iv ((((((1 : Int32) &&& (1 : Int32)) &&& (1 : Int32)) &&& (1 : Int32)) &&& (1 : Int32)) &&& (1 : Int32))] [(.int ((((((1 : Int32) &&& (1 : Int32)) &&& (1 : Int32)) &&& (1 : Int32)) &&& (1 : Int32)) &&& (1 : Int32)))]))
    refine Ends.go (fun _ => XS.aload X18.here hx rfl (hb hby at_246) rfl rfl) ?_
    show Ends p.tables e below G (T18.setTop (mkF m 248 #[iv va, iv vb, iv vc, iv vm, rv b1, rv b5, iv ((((((1 : Int32) &&& (1 : Int32)) &&& (1 : Int32)) &&& (1 : Int32)) &&& (1 : Int32)) &&& (1 : Int32))] [(.ref b5), (.int ((((((1 : Int32) &&& (1 : Int32)) &&& (1 : Int32)) &&& (1 : Int32)) &&& (1 : Int32)) &&& (1 : Int32)))]))
    obtain ⟨cq19, kq19, q19a, q19b, q19c⟩ := isOf hZ e18 E17
    obtain ⟨_, _, ⟨T19, L19, k19, n19⟩, -, X19, ⟨Lc19, hQ19, l19, y19, z19⟩, st19⟩ := X18.virtualBack hx (y := (⟨"com/example/dispatchbook/dispatchbook/amqp/WireReader", "bit", "()Z"⟩ : MethodName)) (z := (⟨"com/example/dispatchbook/dispatchbook/amqp/WireReader", "bit", "()Z"⟩ : MethodName)) hown (mvT hZ (hw _ (List.mem_of_getElem? (i := 14) rfl))) (mvT hZ (hw _ (List.mem_of_getElem? (i := 15) rfl))) (notFace_of_selects (args := #[]) (mvT hZ (hw _ (List.mem_of_getElem? (i := 17) rfl)))) (mvT hZ (hw _ (List.mem_of_getElem? (i := 17) rfl))) (mvT hZ (hw _ (List.mem_of_getElem? (i := 16) rfl))) (by decide) (backOf (W := 1) (rm3b l Z a0 hw [] b5 b1 (own_f va vb vc) (1 : Int32) (own_f va vb vc 0 &&& 255) (6 : Int32) T17.heap n0 sz17 RR17 g_b5 (by decide)) hZ (hw _ (List.mem_of_getElem? (i := 18) rfl)) (hw _ (List.mem_of_getElem? (i := 3) rfl)) (by decide) (by decide)) q19a q19c (g := (mkF m 248 #[iv va, iv vb, iv vc, iv vm, rv b1, rv b5, iv ((((((1 : Int32) &&& (1 : Int32)) &&& (1 : Int32)) &&& (1 : Int32)) &&& (1 : Int32)) &&& (1 : Int32))] [(.ref b5), (.int ((((((1 : Int32) &&& (1 : Int32)) &&& (1 : Int32)) &&& (1 : Int32)) &&& (1 : Int32)) &&& (1 : Int32)))])) rfl (by rw [hml]; rfl) (Steps.refl _) (argsL := []) (rest := [(.int ((((((1 : Int32) &&& (1 : Int32)) &&& (1 : Int32)) &&& (1 : Int32)) &&& (1 : Int32)) &&& (1 : Int32)))]) (lenOf pd_4 rfl) rfl (by show 2 * 0 + _ ≤ _; exact Nat.le_of_eq rfl) (hb hby at_248) (fun _ _ => ⟨rfl, e18, (by decide : (((((((((((((((0 + 1) + 1) + 0) + 0) + 0) + 0) + 0) + 0) + 0) + 0) + 0) + 0) + 0) + 0) + 0) + 0 ≤ _), (by decide : (((((((((((((((0 + 3) + 4) + 0) + 0) + 0) + 0) + 0) + 0) + 0) + 0) + 0) + 0) + 0) + 0) + 0) + 0 ≤ _)⟩)
    dsimp only [Pt.U, Pt.locs, Pt.cells, Pt.slots] at X19 l19 y19 z19 st19 hQ19
    subst l19 y19 z19
    obtain ⟨rfl, N19q, Kq19, R19⟩ := hQ19
    have N19 := Fr.app N18 N19q
    have sz19 := Nat.le_trans sz17 Kq19.1
    have RR19 : RD Z T19.heap b5 b1 (own_f va vb vc) (1 : Int32) (own_f va vb vc 0 &&& 255) (7 : Int32) := R19
    have E19 := R19.1
    refine Ends.go (fun _ => st19.trans) ?_
    show Ends p.tables e below G (T19.setTop (mkF m 251 #[iv va, iv vb, iv vc, iv vm, rv b1, rv b5, iv ((((((1 : Int32) &&& (1 : Int32)) &&& (1 : Int32)) &&& (1 : Int32)) &&& (1 : Int32)) &&& (1 : Int32))] [(.int (bitAt (own_f va vb vc 0 &&& 255) (6 : Int32))), (.int ((((((1 : Int32) &&& (1 : Int32)) &&& (1 : Int32)) &&& (1 : Int32)) &&& (1 : Int32)) &&& (1 : Int32)))]))
    refine Ends.go (fun _ => XS.iloadN X19.here hx rfl (hb hby at_251) rfl) ?_
    show Ends p.tables e below G (T19.setTop (mkF m 252 #[iv va, iv vb, iv vc, iv vm, rv b1, rv b5, iv ((((((1 : Int32) &&& (1 : Int32)) &&& (1 : Int32)) &&& (1 : Int32)) &&& (1 : Int32)) &&& (1 : Int32))] [(.int va), (.int (bitAt (own_f va vb vc 0 &&& 255) (6 : Int32))), (.int ((((((1 : Int32) &&& (1 : Int32)) &&& (1 : Int32)) &&& (1 : Int32)) &&& (1 : Int32)) &&& (1 : Int32)))]))
    refine Ends.go (fun _ => XS.bipush X19.here hx rfl (hb hby at_252)) ?_
    show Ends p.tables e below G (T19.setTop (mkF m 254 #[iv va, iv vb, iv vc, iv vm, rv b1, rv b5, iv ((((((1 : Int32) &&& (1 : Int32)) &&& (1 : Int32)) &&& (1 : Int32)) &&& (1 : Int32)) &&& (1 : Int32))] [(.int (6 : Int32)), (.int va), (.int (bitAt (own_f va vb vc 0 &&& 255) (6 : Int32))), (.int ((((((1 : Int32) &&& (1 : Int32)) &&& (1 : Int32)) &&& (1 : Int32)) &&& (1 : Int32)) &&& (1 : Int32)))]))
    obtain ⟨_, _, ⟨T20, L20, k20, n20⟩, -, X20, ⟨Lc20, hQ20, l20, y20, z20⟩, st20⟩ := Jvm.LawKit.callS X19 hx (y := (⟨"com/example/dispatchbook/dispatchbook/amqp/WireReaderBitPinLaw", "bitOf", "(II)Z"⟩ : MethodName)) hown (mvT hZ (hw _ (List.mem_of_getElem? (i := 32) rfl))) (mvT hZ (hw _ (List.mem_of_getElem? (i := 33) rfl))) (mvT hZ (hw _ (List.mem_of_getElem? (i := 34) rfl))) (mvT hZ (hw _ (List.mem_of_getElem? (i := 35) rfl))) (by decide) (backOf (W := 2) (rm6 l Z a0 hw [] va (6 : Int32) T19.heap n0 sz19) hZ (hw _ (List.mem_of_getElem? (i := 35) rfl)) (hw _ (List.mem_of_getElem? (i := 34) rfl)) (by decide) (by decide)) (g := (mkF m 254 #[iv va, iv vb, iv vc, iv vm, rv b1, rv b5, iv ((((((1 : Int32) &&& (1 : Int32)) &&& (1 : Int32)) &&& (1 : Int32)) &&& (1 : Int32)) &&& (1 : Int32))] [(.int (6 : Int32)), (.int va), (.int (bitAt (own_f va vb vc 0 &&& 255) (6 : Int32))), (.int ((((((1 : Int32) &&& (1 : Int32)) &&& (1 : Int32)) &&& (1 : Int32)) &&& (1 : Int32)) &&& (1 : Int32)))])) rfl (by rw [hml]; rfl) (argsL := [(.int va), (.int (6 : Int32))]) (rest := [(.int (bitAt (own_f va vb vc 0 &&& 255) (6 : Int32))), (.int ((((((1 : Int32) &&& (1 : Int32)) &&& (1 : Int32)) &&& (1 : Int32)) &&& (1 : Int32)) &&& (1 : Int32)))]) (lenOf pd_5 rfl) rfl (by show 2 * 0 + _ ≤ _; exact Nat.le_of_eq rfl) (hb hby at_254) (fun _ _ => ⟨rfl, rfl, (by decide : ((((((((((((((((0 + 1) + 1) + 0) + 0) + 0) + 0) + 0) + 0) + 0) + 0) + 0) + 0) + 0) + 0) + 0) + 0) + 0 ≤ _), (by decide : ((((((((((((((((0 + 3) + 4) + 0) + 0) + 0) + 0) + 0) + 0) + 0) + 0) + 0) + 0) + 0) + 0) + 0) + 0) + 0 ≤ _)⟩)
    dsimp only [Pt.U, Pt.locs, Pt.cells, Pt.slots] at X20 l20 y20 z20 st20 hQ20
    subst l20 y20 z20
    obtain ⟨rfl, N20q, e20⟩ := hQ20
    have N20 := Fr.app N19 N20q
    refine Ends.go (fun _ => st20 _) ?_
    show Ends p.tables e below G (T20.setTop (mkF m 257 #[iv va, iv vb, iv vc, iv vm, rv b1, rv b5, iv ((((((1 : Int32) &&& (1 : Int32)) &&& (1 : Int32)) &&& (1 : Int32)) &&& (1 : Int32)) &&& (1 : Int32))] [(.int (bitAt va (6 : Int32))), (.int (bitAt (own_f va vb vc 0 &&& 255) (6 : Int32))), (.int ((((((1 : Int32) &&& (1 : Int32)) &&& (1 : Int32)) &&& (1 : Int32)) &&& (1 : Int32)) &&& (1 : Int32)))]))
    refine Ends.go (fun _ => XS.icmpNo X20.here hx rfl (hb hby at_257) rfl (teq (own_bk0 va vb vc ⟨6, by decide⟩ : (bitAt (own_f va vb vc 0 &&& 255) (6 : Int32)) = (bitAt va (6 : Int32)))).2) ?_
    show Ends p.tables e below G (T20.setTop (mkF m 260 #[iv va, iv vb, iv vc, iv vm, rv b1, rv b5, iv ((((((1 : Int32) &&& (1 : Int32)) &&& (1 : Int32)) &&& (1 : Int32)) &&& (1 : Int32)) &&& (1 : Int32))] [(.int ((((((1 : Int32) &&& (1 : Int32)) &&& (1 : Int32)) &&& (1 : Int32)) &&& (1 : Int32)) &&& (1 : Int32)))]))
    refine Ends.go (fun _ => XS.iconst X20.here hx rfl (hb hby at_260)) ?_
    show Ends p.tables e below G (T20.setTop (mkF m 261 #[iv va, iv vb, iv vc, iv vm, rv b1, rv b5, iv ((((((1 : Int32) &&& (1 : Int32)) &&& (1 : Int32)) &&& (1 : Int32)) &&& (1 : Int32)) &&& (1 : Int32))] [(.int (1 : Int32)), (.int ((((((1 : Int32) &&& (1 : Int32)) &&& (1 : Int32)) &&& (1 : Int32)) &&& (1 : Int32)) &&& (1 : Int32)))]))
    refine Ends.go (fun _ => XS.goto X20.here hx rfl (pc0 := 261) (pc' := 265) rfl (hb hby at_261) (by decide) (by decide)) ?_
    show Ends p.tables e below G (T20.setTop (mkF m 265 #[iv va, iv vb, iv vc, iv vm, rv b1, rv b5, iv ((((((1 : Int32) &&& (1 : Int32)) &&& (1 : Int32)) &&& (1 : Int32)) &&& (1 : Int32)) &&& (1 : Int32))] [(.int (1 : Int32)), (.int ((((((1 : Int32) &&& (1 : Int32)) &&& (1 : Int32)) &&& (1 : Int32)) &&& (1 : Int32)) &&& (1 : Int32)))]))
    refine Ends.go (fun _ => XS.iand X20.here hx rfl (hb hby at_265) rfl) ?_
    show Ends p.tables e below G (T20.setTop (mkF m 266 #[iv va, iv vb, iv vc, iv vm, rv b1, rv b5, iv ((((((1 : Int32) &&& (1 : Int32)) &&& (1 : Int32)) &&& (1 : Int32)) &&& (1 : Int32)) &&& (1 : Int32))] [(.int (((((((1 : Int32) &&& (1 : Int32)) &&& (1 : Int32)) &&& (1 : Int32)) &&& (1 : Int32)) &&& (1 : Int32)) &&& (1 : Int32)))]))
    refine Ends.go (fun _ => XS.istore X20.here hx rfl (hb hby at_266) rfl (l' := #[iv va, iv vb, iv vc, iv vm, rv b1, rv b5, iv (((((((1 : Int32) &&& (1 : Int32)) &&& (1 : Int32)) &&& (1 : Int32)) &&& (1 : Int32)) &&& (1 : Int32)) &&& (1 : Int32))]) rfl) ?_
    show Ends p.tables e below G (T20.setTop (mkF m 268 #[iv va, iv vb, iv vc, iv vm, rv b1, rv b5, iv (((((((1 : Int32) &&& (1 : Int32)) &&& (1 : Int32)) &&& (1 : Int32)) &&& (1 : Int32)) &&& (1 : Int32)) &&& (1 : Int32))] []))
    refine Ends.go (fun _ => XS.iload X20.here hx rfl (hb hby at_268) rfl) ?_
    show Ends p.tables e below G (T20.setTop (mkF m 270 #[iv va, iv vb, iv vc, iv vm, rv b1, rv b5, iv (((((((1 : Int32) &&& (1 : Int32)) &&& (1 : Int32)) &&& (1 : Int32)) &&& (1 : Int32)) &&& (1 : Int32)) &&& (1 : Int32))] [(.int (((((((1 : Int32) &&& (1 : Int32)) &&& (1 : Int32)) &&& (1 : Int32)) &&& (1 : Int32)) &&& (1 : Int32)) &&& (1 : Int32)))]))
    refine Ends.go (fun _ => XS.aload X20.here hx rfl (hb hby at_270) rfl rfl) ?_
    show Ends p.tables e below G (T20.setTop (mkF m 272 #[iv va, iv vb, iv vc, iv vm, rv b1, rv b5, iv (((((((1 : Int32) &&& (1 : Int32)) &&& (1 : Int32)) &&& (1 : Int32)) &&& (1 : Int32)) &&& (1 : Int32)) &&& (1 : Int32))] [(.ref b5), (.int (((((((1 : Int32) &&& (1 : Int32)) &&& (1 : Int32)) &&& (1 : Int32)) &&& (1 : Int32)) &&& (1 : Int32)) &&& (1 : Int32)))]))
    obtain ⟨cq21, kq21, q21a, q21b, q21c⟩ := isOf hZ e20 E19
    obtain ⟨_, _, ⟨T21, L21, k21, n21⟩, -, X21, ⟨Lc21, hQ21, l21, y21, z21⟩, st21⟩ := X20.virtualBack hx (y := (⟨"com/example/dispatchbook/dispatchbook/amqp/WireReader", "bit", "()Z"⟩ : MethodName)) (z := (⟨"com/example/dispatchbook/dispatchbook/amqp/WireReader", "bit", "()Z"⟩ : MethodName)) hown (mvT hZ (hw _ (List.mem_of_getElem? (i := 14) rfl))) (mvT hZ (hw _ (List.mem_of_getElem? (i := 15) rfl))) (notFace_of_selects (args := #[]) (mvT hZ (hw _ (List.mem_of_getElem? (i := 17) rfl)))) (mvT hZ (hw _ (List.mem_of_getElem? (i := 17) rfl))) (mvT hZ (hw _ (List.mem_of_getElem? (i := 16) rfl))) (by decide) (backOf (W := 1) (rm3b l Z a0 hw [] b5 b1 (own_f va vb vc) (1 : Int32) (own_f va vb vc 0 &&& 255) (7 : Int32) T19.heap n0 sz19 RR19 g_b5 (by decide)) hZ (hw _ (List.mem_of_getElem? (i := 18) rfl)) (hw _ (List.mem_of_getElem? (i := 3) rfl)) (by decide) (by decide)) q21a q21c (g := (mkF m 272 #[iv va, iv vb, iv vc, iv vm, rv b1, rv b5, iv (((((((1 : Int32) &&& (1 : Int32)) &&& (1 : Int32)) &&& (1 : Int32)) &&& (1 : Int32)) &&& (1 : Int32)) &&& (1 : Int32))] [(.ref b5), (.int (((((((1 : Int32) &&& (1 : Int32)) &&& (1 : Int32)) &&& (1 : Int32)) &&& (1 : Int32)) &&& (1 : Int32)) &&& (1 : Int32)))])) rfl (by rw [hml]; rfl) (Steps.refl _) (argsL := []) (rest := [(.int (((((((1 : Int32) &&& (1 : Int32)) &&& (1 : Int32)) &&& (1 : Int32)) &&& (1 : Int32)) &&& (1 : Int32)) &&& (1 : Int32)))]) (lenOf pd_4 rfl) rfl (by show 2 * 0 + _ ≤ _; exact Nat.le_of_eq rfl) (hb hby at_272) (fun _ _ => ⟨rfl, e20, (by decide : (((((((((((((((((0 + 1) + 1) + 0) + 0) + 0) + 0) + 0) + 0) + 0) + 0) + 0) + 0) + 0) + 0) + 0) + 0) + 0) + 0 ≤ _), (by decide : (((((((((((((((((0 + 3) + 4) + 0) + 0) + 0) + 0) + 0) + 0) + 0) + 0) + 0) + 0) + 0) + 0) + 0) + 0) + 0) + 0 ≤ _)⟩)
    dsimp only [Pt.U, Pt.locs, Pt.cells, Pt.slots] at X21 l21 y21 z21 st21 hQ21
    subst l21 y21 z21
    obtain ⟨rfl, N21q, Kq21, R21⟩ := hQ21
    have N21 := Fr.app N20 N21q
    have sz21 := Nat.le_trans sz19 Kq21.1
    have RR21 : RD Z T21.heap b5 b1 (own_f va vb vc) (1 : Int32) (own_f va vb vc 0 &&& 255) (8 : Int32) := R21
    have E21 := R21.1
    refine Ends.go (fun _ => st21.trans) ?_
    show Ends p.tables e below G (T21.setTop (mkF m 275 #[iv va, iv vb, iv vc, iv vm, rv b1, rv b5, iv (((((((1 : Int32) &&& (1 : Int32)) &&& (1 : Int32)) &&& (1 : Int32)) &&& (1 : Int32)) &&& (1 : Int32)) &&& (1 : Int32))] [(.int (bitAt (own_f va vb vc 0 &&& 255) (7 : Int32))), (.int (((((((1 : Int32) &&& (1 : Int32)) &&& (1 : Int32)) &&& (1 : Int32)) &&& (1 : Int32)) &&& (1 : Int32)) &&& (1 : Int32)))]))
    refine Ends.go (fun _ => XS.iloadN X21.here hx rfl (hb hby at_275) rfl) ?_
    show Ends p.tables e below G (T21.setTop (mkF m 276 #[iv va, iv vb, iv vc, iv vm, rv b1, rv b5, iv (((((((1 : Int32) &&& (1 : Int32)) &&& (1 : Int32)) &&& (1 : Int32)) &&& (1 : Int32)) &&& (1 : Int32)) &&& (1 : Int32))] [(.int va), (.int (bitAt (own_f va vb vc 0 &&& 255) (7 : Int32))), (.int (((((((1 : Int32) &&& (1 : Int32)) &&& (1 : Int32)) &&& (1 : Int32)) &&& (1 : Int32)) &&& (1 : Int32)) &&& (1 : Int32)))]))
    refine Ends.go (fun _ => XS.bipush X21.here hx rfl (hb hby at_276)) ?_
    show Ends p.tables e below G (T21.setTop (mkF m 278 #[iv va, iv vb, iv vc, iv vm, rv b1, rv b5, iv (((((((1 : Int32) &&& (1 : Int32)) &&& (1 : Int32)) &&& (1 : Int32)) &&& (1 : Int32)) &&& (1 : Int32)) &&& (1 : Int32))] [(.int (7 : Int32)), (.int va), (.int (bitAt (own_f va vb vc 0 &&& 255) (7 : Int32))), (.int (((((((1 : Int32) &&& (1 : Int32)) &&& (1 : Int32)) &&& (1 : Int32)) &&& (1 : Int32)) &&& (1 : Int32)) &&& (1 : Int32)))]))
    obtain ⟨_, _, ⟨T22, L22, k22, n22⟩, -, X22, ⟨Lc22, hQ22, l22, y22, z22⟩, st22⟩ := Jvm.LawKit.callS X21 hx (y := (⟨"com/example/dispatchbook/dispatchbook/amqp/WireReaderBitPinLaw", "bitOf", "(II)Z"⟩ : MethodName)) hown (mvT hZ (hw _ (List.mem_of_getElem? (i := 32) rfl))) (mvT hZ (hw _ (List.mem_of_getElem? (i := 33) rfl))) (mvT hZ (hw _ (List.mem_of_getElem? (i := 34) rfl))) (mvT hZ (hw _ (List.mem_of_getElem? (i := 35) rfl))) (by decide) (backOf (W := 2) (rm6 l Z a0 hw [] va (7 : Int32) T21.heap n0 sz21) hZ (hw _ (List.mem_of_getElem? (i := 35) rfl)) (hw _ (List.mem_of_getElem? (i := 34) rfl)) (by decide) (by decide)) (g := (mkF m 278 #[iv va, iv vb, iv vc, iv vm, rv b1, rv b5, iv (((((((1 : Int32) &&& (1 : Int32)) &&& (1 : Int32)) &&& (1 : Int32)) &&& (1 : Int32)) &&& (1 : Int32)) &&& (1 : Int32))] [(.int (7 : Int32)), (.int va), (.int (bitAt (own_f va vb vc 0 &&& 255) (7 : Int32))), (.int (((((((1 : Int32) &&& (1 : Int32)) &&& (1 : Int32)) &&& (1 : Int32)) &&& (1 : Int32)) &&& (1 : Int32)) &&& (1 : Int32)))])) rfl (by rw [hml]; rfl) (argsL := [(.int va), (.int (7 : Int32))]) (rest := [(.int (bitAt (own_f va vb vc 0 &&& 255) (7 : Int32))), (.int (((((((1 : Int32) &&& (1 : Int32)) &&& (1 : Int32)) &&& (1 : Int32)) &&& (1 : Int32)) &&& (1 : Int32)) &&& (1 : Int32)))]) (lenOf pd_5 rfl) rfl (by show 2 * 0 + _ ≤ _; exact Nat.le_of_eq rfl) (hb hby at_278) (fun _ _ => ⟨rfl, rfl, (by decide : ((((((((((((((((((0 + 1) + 1) + 0) + 0) + 0) + 0) + 0) + 0) + 0) + 0) + 0) + 0) + 0) + 0) + 0) + 0) + 0) + 0) + 0 ≤ _), (by decide : ((((((((((((((((((0 + 3) + 4) + 0) + 0) + 0) + 0) + 0) + 0) + 0) + 0) + 0) + 0) + 0) + 0) + 0) + 0) + 0) + 0) + 0 ≤ _)⟩)
    dsimp only [Pt.U, Pt.locs, Pt.cells, Pt.slots] at X22 l22 y22 z22 st22 hQ22
    subst l22 y22 z22
    obtain ⟨rfl, N22q, e22⟩ := hQ22
    have N22 := Fr.app N21 N22q
    refine Ends.go (fun _ => st22 _) ?_
    show Ends p.tables e below G (T22.setTop (mkF m 281 #[iv va, iv vb, iv vc, iv vm, rv b1, rv b5, iv (((((((1 : Int32) &&& (1 : Int32)) &&& (1 : Int32)) &&& (1 : Int32)) &&& (1 : Int32)) &&& (1 : Int32)) &&& (1 : Int32))] [(.int (bitAt va (7 : Int32))), (.int (bitAt (own_f va vb vc 0 &&& 255) (7 : Int32))), (.int (((((((1 : Int32) &&& (1 : Int32)) &&& (1 : Int32)) &&& (1 : Int32)) &&& (1 : Int32)) &&& (1 : Int32)) &&& (1 : Int32)))]))
    refine Ends.go (fun _ => XS.icmpNo X22.here hx rfl (hb hby at_281) rfl (teq (own_bk0 va vb vc ⟨7, by decide⟩ : (bitAt (own_f va vb vc 0 &&& 255) (7 : Int32)) = (bitAt va (7 : Int32)))).2) ?_
    show Ends p.tables e below G (T22.setTop (mkF m 284 #[iv va, iv vb, iv vc, iv vm, rv b1, rv b5, iv (((((((1 : Int32) &&& (1 : Int32)) &&& (1 : Int32)) &&& (1 : Int32)) &&& (1 : Int32)) &&& (1 : Int32)) &&& (1 : Int32))] [(.int (((((((1 : Int32) &&& (1 : Int32)) &&& (1 : Int32)) &&& (1 : Int32)) &&& (1 : Int32)) &&& (1 : Int32)) &&& (1 : Int32)))]))
    refine Ends.go (fun _ => XS.iconst X22.here hx rfl (hb hby at_284)) ?_
    show Ends p.tables e below G (T22.setTop (mkF m 285 #[iv va, iv vb, iv vc, iv vm, rv b1, rv b5, iv (((((((1 : Int32) &&& (1 : Int32)) &&& (1 : Int32)) &&& (1 : Int32)) &&& (1 : Int32)) &&& (1 : Int32)) &&& (1 : Int32))] [(.int (1 : Int32)), (.int (((((((1 : Int32) &&& (1 : Int32)) &&& (1 : Int32)) &&& (1 : Int32)) &&& (1 : Int32)) &&& (1 : Int32)) &&& (1 : Int32)))]))
    refine Ends.go (fun _ => XS.goto X22.here hx rfl (pc0 := 285) (pc' := 289) rfl (hb hby at_285) (by decide) (by decide)) ?_
    show Ends p.tables e below G (T22.setTop (mkF m 289 #[iv va, iv vb, iv vc, iv vm, rv b1, rv b5, iv (((((((1 : Int32) &&& (1 : Int32)) &&& (1 : Int32)) &&& (1 : Int32)) &&& (1 : Int32)) &&& (1 : Int32)) &&& (1 : Int32))] [(.int (1 : Int32)), (.int (((((((1 : Int32) &&& (1 : Int32)) &&& (1 : Int32)) &&& (1 : Int32)) &&& (1 : Int32)) &&& (1 : Int32)) &&& (1 : Int32)))]))
    refine Ends.go (fun _ => XS.iand X22.here hx rfl (hb hby at_289) rfl) ?_
    show Ends p.tables e below G (T22.setTop (mkF m 290 #[iv va, iv vb, iv vc, iv vm, rv b1, rv b5, iv (((((((1 : Int32) &&& (1 : Int32)) &&& (1 : Int32)) &&& (1 : Int32)) &&& (1 : Int32)) &&& (1 : Int32)) &&& (1 : Int32))] [(.int ((((((((1 : Int32) &&& (1 : Int32)) &&& (1 : Int32)) &&& (1 : Int32)) &&& (1 : Int32)) &&& (1 : Int32)) &&& (1 : Int32)) &&& (1 : Int32)))]))
    refine Ends.go (fun _ => XS.istore X22.here hx rfl (hb hby at_290) rfl (l' := #[iv va, iv vb, iv vc, iv vm, rv b1, rv b5, iv ((((((((1 : Int32) &&& (1 : Int32)) &&& (1 : Int32)) &&& (1 : Int32)) &&& (1 : Int32)) &&& (1 : Int32)) &&& (1 : Int32)) &&& (1 : Int32))]) rfl) ?_
    show Ends p.tables e below G (T22.setTop (mkF m 292 #[iv va, iv vb, iv vc, iv vm, rv b1, rv b5, iv ((((((((1 : Int32) &&& (1 : Int32)) &&& (1 : Int32)) &&& (1 : Int32)) &&& (1 : Int32)) &&& (1 : Int32)) &&& (1 : Int32)) &&& (1 : Int32))] []))
    refine Ends.go (fun _ => XS.iload X22.here hx rfl (hb hby at_292) rfl) ?_
    show Ends p.tables e below G (T22.setTop (mkF m 294 #[iv va, iv vb, iv vc, iv vm, rv b1, rv b5, iv ((((((((1 : Int32) &&& (1 : Int32)) &&& (1 : Int32)) &&& (1 : Int32)) &&& (1 : Int32)) &&& (1 : Int32)) &&& (1 : Int32)) &&& (1 : Int32))] [(.int ((((((((1 : Int32) &&& (1 : Int32)) &&& (1 : Int32)) &&& (1 : Int32)) &&& (1 : Int32)) &&& (1 : Int32)) &&& (1 : Int32)) &&& (1 : Int32)))]))
    refine Ends.go (fun _ => XS.aload X22.here hx rfl (hb hby at_294) rfl rfl) ?_
    show Ends p.tables e below G (T22.setTop (mkF m 296 #[iv va, iv vb, iv vc, iv vm, rv b1, rv b5, iv ((((((((1 : Int32) &&& (1 : Int32)) &&& (1 : Int32)) &&& (1 : Int32)) &&& (1 : Int32)) &&& (1 : Int32)) &&& (1 : Int32)) &&& (1 : Int32))] [(.ref b5), (.int ((((((((1 : Int32) &&& (1 : Int32)) &&& (1 : Int32)) &&& (1 : Int32)) &&& (1 : Int32)) &&& (1 : Int32)) &&& (1 : Int32)) &&& (1 : Int32)))]))
    obtain ⟨cq23, kq23, q23a, q23b, q23c⟩ := isOf hZ e22 E21
    obtain ⟨_, _, ⟨T23, L23, k23, n23⟩, -, X23, ⟨Lc23, hQ23, l23, y23, z23⟩, st23⟩ := X22.virtualBack hx (y := (⟨"com/example/dispatchbook/dispatchbook/amqp/WireReader", "bit", "()Z"⟩ : MethodName)) (z := (⟨"com/example/dispatchbook/dispatchbook/amqp/WireReader", "bit", "()Z"⟩ : MethodName)) hown (mvT hZ (hw _ (List.mem_of_getElem? (i := 14) rfl))) (mvT hZ (hw _ (List.mem_of_getElem? (i := 15) rfl))) (notFace_of_selects (args := #[]) (mvT hZ (hw _ (List.mem_of_getElem? (i := 17) rfl)))) (mvT hZ (hw _ (List.mem_of_getElem? (i := 17) rfl))) (mvT hZ (hw _ (List.mem_of_getElem? (i := 16) rfl))) (by decide) (backOf (W := 1) (rm3a l Z a0 hw [] b5 b1 (own_f va vb vc) (1 : Int32) (own_f va vb vc 0 &&& 255) 1 T21.heap n0 sz21 RR21 g_b5 (by decide) (by decide)) hZ (hw _ (List.mem_of_getElem? (i := 18) rfl)) (hw _ (List.mem_of_getElem? (i := 3) rfl)) (by decide) (by decide)) q23a q23c (g := (mkF m 296 #[iv va, iv vb, iv vc, iv vm, rv b1, rv b5, iv ((((((((1 : Int32) &&& (1 : Int32)) &&& (1 : Int32)) &&& (1 : Int32)) &&& (1 : Int32)) &&& (1 : Int32)) &&& (1 : Int32)) &&& (1 : Int32))] [(.ref b5), (.int ((((((((1 : Int32) &&& (1 : Int32)) &&& (1 : Int32)) &&& (1 : Int32)) &&& (1 : Int32)) &&& (1 : Int32)) &&& (1 : Int32)) &&& (1 : Int32)))])) rfl (by rw [hml]; rfl) (Steps.refl _) (argsL := []) (rest := [(.int ((((((((1 : Int32) &&& (1 : Int32)) &&& (1 : Int32)) &&& (1 : Int32)) &&& (1 : Int32)) &&& (1 : Int32)) &&& (1 : Int32)) &&& (1 : Int32)))]) (lenOf pd_4 rfl) rfl (by show 2 * 0 + _ ≤ _; exact Nat.le_of_eq rfl) (hb hby at_296) (fun _ _ => ⟨rfl, e22, (by decide : (((((((((((((((((((0 + 1) + 1) + 0) + 0) + 0) + 0) + 0) + 0) + 0) + 0) + 0) + 0) + 0) + 0) + 0) + 0) + 0) + 0) + 0) + 0 ≤ _), (by decide : (((((((((((((((((((0 + 3) + 4) + 0) + 0) + 0) + 0) + 0) + 0) + 0) + 0) + 0) + 0) + 0) + 0) + 0) + 0) + 0) + 0) + 0) + 0 ≤ _)⟩)
    dsimp only [Pt.U, Pt.locs, Pt.cells, Pt.slots] at X23 l23 y23 z23 st23 hQ23
    subst l23 y23 z23
    obtain ⟨rfl, N23q, Kq23, R23⟩ := hQ23
    have N23 := Fr.app N22 N23q
    have sz23 := Nat.le_trans sz21 Kq23.1
    have RR23 : RD Z T23.heap b5 b1 (own_f va vb vc) (2 : Int32) (own_f va vb vc 1 &&& 255) (1 : Int32) := R23
    have E23 := R23.1
    refine Ends.go (fun _ => st23.trans) ?_
    show Ends p.tables e below G (T23.setTop (mkF m 299 #[iv va, iv vb, iv vc, iv vm, rv b1, rv b5, iv ((((((((1 : Int32) &&& (1 : Int32)) &&& (1 : Int32)) &&& (1 : Int32)) &&& (1 : Int32)) &&& (1 : Int32)) &&& (1 : Int32)) &&& (1 : Int32))] [(.int (bitAt (own_f va vb vc 1 &&& 255) 0)), (.int ((((((((1 : Int32) &&& (1 : Int32)) &&& (1 : Int32)) &&& (1 : Int32)) &&& (1 : Int32)) &&& (1 : Int32)) &&& (1 : Int32)) &&& (1 : Int32)))]))
    refine Ends.go (fun _ => XS.iloadN X23.here hx rfl (hb hby at_299) rfl) ?_
    show Ends p.tables e below G (T23.setTop (mkF m 300 #[iv va, iv vb, iv vc, iv vm, rv b1, rv b5, iv ((((((((1 : Int32) &&& (1 : Int32)) &&& (1 : Int32)) &&& (1 : Int32)) &&& (1 : Int32)) &&& (1 : Int32)) &&& (1 : Int32)) &&& (1 : Int32))] [(.int vb), (.int (bitAt (own_f va vb vc 1 &&& 255) 0)), (.int ((((((((1 : Int32) &&& (1 : Int32)) &&& (1 : Int32)) &&& (1 : Int32)) &&& (1 : Int32)) &&& (1 : Int32)) &&& (1 : Int32)) &&& (1 : Int32)))]))
    refine Ends.go (fun _ => XS.iconst X23.here hx rfl (hb hby at_300)) ?_
    show Ends p.tables e below G (T23.setTop (mkF m 301 #[iv va, iv vb, iv vc, iv vm, rv b1, rv b5, iv ((((((((1 : Int32) &&& (1 : Int32)) &&& (1 : Int32)) &&& (1 : Int32)) &&& (1 : Int32)) &&& (1 : Int32)) &&& (1 : Int32)) &&& (1 : Int32))] [(.int (0 : Int32)), (.int vb), (.int (bitAt (own_f va vb vc 1 &&& 255) 0)), (.int ((((((((1 : Int32) &&& (1 : Int32)) &&& (1 : Int32)) &&& (1 : Int32)) &&& (1 : Int32)) &&& (1 : Int32)) &&& (1 : Int32)) &&& (1 : Int32)))]))
    obtain ⟨_, _, ⟨T24, L24, k24, n24⟩, -, X24, ⟨Lc24, hQ24, l24, y24, z24⟩, st24⟩ := Jvm.LawKit.callS X23 hx (y := (⟨"com/example/dispatchbook/dispatchbook/amqp/WireReaderBitPinLaw", "bitOf", "(II)Z"⟩ : MethodName)) hown (mvT hZ (hw _ (List.mem_of_getElem? (i := 32) rfl))) (mvT hZ (hw _ (List.mem_of_getElem? (i := 33) rfl))) (mvT hZ (hw _ (List.mem_of_getElem? (i := 34) rfl))) (mvT hZ (hw _ (List.mem_of_getElem? (i := 35) rfl))) (by decide) (backOf (W := 2) (rm6 l Z a0 hw [] vb (0 : Int32) T23.heap n0 sz23) hZ (hw _ (List.mem_of_getElem? (i := 35) rfl)) (hw _ (List.mem_of_getElem? (i := 34) rfl)) (by decide) (by decide)) (g := (mkF m 301 #[iv va, iv vb, iv vc, iv vm, rv b1, rv b5, iv ((((((((1 : Int32) &&& (1 : Int32)) &&& (1 : Int32)) &&& (1 : Int32)) &&& (1 : Int32)) &&& (1 : Int32)) &&& (1 : Int32)) &&& (1 : Int32))] [(.int (0 : Int32)), (.int vb), (.int (bitAt (own_f va vb vc 1 &&& 255) 0)), (.int ((((((((1 : Int32) &&& (1 : Int32)) &&& (1 : Int32)) &&& (1 : Int32)) &&& (1 : Int32)) &&& (1 : Int32)) &&& (1 : Int32)) &&& (1 : Int32)))])) rfl (by rw [hml]; rfl) (argsL := [(.int vb), (.int (0 : Int32))]) (rest := [(.int (bitAt (own_f va vb vc 1 &&& 255) 0)), (.int ((((((((1 : Int32) &&& (1 : Int32)) &&& (1 : Int32)) &&& (1 : Int32)) &&& (1 : Int32)) &&& (1 : Int32)) &&& (1 : Int32)) &&& (1 : Int32)))]) (lenOf pd_5 rfl) rfl (by show 2 * 0 + _ ≤ _; exact Nat.le_of_eq rfl) (hb hby at_301) (fun _ _ => ⟨rfl, rfl, (by decide : ((((((((((((((((((((0 + 1) + 1) + 0) + 0) + 0) + 0) + 0) + 0) + 0) + 0) + 0) + 0) + 0) + 0) + 0) + 0) + 0) + 0) + 0) + 0) + 0 ≤ _), (by decide : ((((((((((((((((((((0 + 3) + 4) + 0) + 0) + 0) + 0) + 0) + 0) + 0) + 0) + 0) + 0) + 0) + 0) + 0) + 0) + 0) + 0) + 0) + 0) + 0 ≤ _)⟩)
    dsimp only [Pt.U, Pt.locs, Pt.cells, Pt.slots] at X24 l24 y24 z24 st24 hQ24
    subst l24 y24 z24
    obtain ⟨rfl, N24q, e24⟩ := hQ24
    have N24 := Fr.app N23 N24q
    refine Ends.go (fun _ => st24 _) ?_
    show Ends p.tables e below G (T24.setTop (mkF m 304 #[iv va, iv vb, iv vc, iv vm, rv b1, rv b5, iv ((((((((1 : Int32) &&& (1 : Int32)) &&& (1 : Int32)) &&& (1 : Int32)) &&& (1 : Int32)) &&& (1 : Int32)) &&& (1 : Int32)) &&& (1 : Int32))] [(.int (bitAt vb (0 : Int32))), (.int (bitAt (own_f va vb vc 1 &&& 255) 0)), (.int ((((((((1 : Int32) &&& (1 : Int32)) &&& (1 : Int32)) &&& (1 : Int32)) &&& (1 : Int32)) &&& (1 : Int32)) &&& (1 : Int32)) &&& (1 : Int32)))]))
    refine Ends.go (fun _ => XS.icmpNo X24.here hx rfl (hb hby at_304) rfl (teq (own_bk1 va vb vc ⟨0, by decide⟩ : (bitAt (own_f va vb vc 1 &&& 255) 0) = (bitAt vb (0 : Int32)))).2) ?_
    show Ends p.tables e below G (T24.setTop (mkF m 307 #[iv va, iv vb, iv vc, iv vm, rv b1, rv b5, iv ((((((((1 : Int32) &&& (1 : Int32)) &&& (1 : Int32)) &&& (1 : Int32)) &&& (1 : Int32)) &&& (1 : Int32)) &&& (1 : Int32)) &&& (1 : Int32))] [(.int ((((((((1 : Int32) &&& (1 : Int32)) &&& (1 : Int32)) &&& (1 : Int32)) &&& (1 : Int32)) &&& (1 : Int32)) &&& (1 : Int32)) &&& (1 : Int32)))]))
    refine Ends.go (fun _ => XS.iconst X24.here hx rfl (hb hby at_307)) ?_
    show Ends p.tables e below G (T24.setTop (mkF m 308 #[iv va, iv vb, iv vc, iv vm, rv b1, rv b5, iv ((((((((1 : Int32) &&& (1 : Int32)) &&& (1 : Int32)) &&& (1 : Int32)) &&& (1 : Int32)) &&& (1 : Int32)) &&& (1 : Int32)) &&& (1 : Int32))] [(.int (1 : Int32)), (.int ((((((((1 : Int32) &&& (1 : Int32)) &&& (1 : Int32)) &&& (1 : Int32)) &&& (1 : Int32)) &&& (1 : Int32)) &&& (1 : Int32)) &&& (1 : Int32)))]))
    refine Ends.go (fun _ => XS.goto X24.here hx rfl (pc0 := 308) (pc' := 312) rfl (hb hby at_308) (by decide) (by decide)) ?_
    show Ends p.tables e below G (T24.setTop (mkF m 312 #[iv va, iv vb, iv vc, iv vm, rv b1, rv b5, iv ((((((((1 : Int32) &&& (1 : Int32)) &&& (1 : Int32)) &&& (1 : Int32)) &&& (1 : Int32)) &&& (1 : Int32)) &&& (1 : Int32)) &&& (1 : Int32))] [(.int (1 : Int32)), (.int ((((((((1 : Int32) &&& (1 : Int32)) &&& (1 : Int32)) &&& (1 : Int32)) &&& (1 : Int32)) &&& (1 : Int32)) &&& (1 : Int32)) &&& (1 : Int32)))]))
    refine Ends.go (fun _ => XS.iand X24.here hx rfl (hb hby at_312) rfl) ?_
    show Ends p.tables e below G (T24.setTop (mkF m 313 #[iv va, iv vb, iv vc, iv vm, rv b1, rv b5, iv ((((((((1 : Int32) &&& (1 : Int32)) &&& (1 : Int32)) &&& (1 : Int32)) &&& (1 : Int32)) &&& (1 : Int32)) &&& (1 : Int32)) &&& (1 : Int32))] [(.int (((((((((1 : Int32) &&& (1 : Int32)) &&& (1 : Int32)) &&& (1 : Int32)) &&& (1 : Int32)) &&& (1 : Int32)) &&& (1 : Int32)) &&& (1 : Int32)) &&& (1 : Int32)))]))
    refine Ends.go (fun _ => XS.istore X24.here hx rfl (hb hby at_313) rfl (l' := #[iv va, iv vb, iv vc, iv vm, rv b1, rv b5, iv (((((((((1 : Int32) &&& (1 : Int32)) &&& (1 : Int32)) &&& (1 : Int32)) &&& (1 : Int32)) &&& (1 : Int32)) &&& (1 : Int32)) &&& (1 : Int32)) &&& (1 : Int32))]) rfl) ?_
    show Ends p.tables e below G (T24.setTop (mkF m 315 #[iv va, iv vb, iv vc, iv vm, rv b1, rv b5, iv (((((((((1 : Int32) &&& (1 : Int32)) &&& (1 : Int32)) &&& (1 : Int32)) &&& (1 : Int32)) &&& (1 : Int32)) &&& (1 : Int32)) &&& (1 : Int32)) &&& (1 : Int32))] []))
    refine Ends.go (fun _ => XS.iload X24.here hx rfl (hb hby at_315) rfl) ?_
    show Ends p.tables e below G (T24.setTop (mkF m 317 #[iv va, iv vb, iv vc, iv vm, rv b1, rv b5, iv (((((((((1 : Int32) &&& (1 : Int32)) &&& (1 : Int32)) &&& (1 : Int32)) &&& (1 : Int32)) &&& (1 : Int32)) &&& (1 : Int32)) &&& (1 : Int32)) &&& (1 : Int32))] [(.int (((((((((1 : Int32) &&& (1 : Int32)) &&& (1 : Int32)) &&& (1 : Int32)) &&& (1 : Int32)) &&& (1 : Int32)) &&& (1 : Int32)) &&& (1 : Int32)) &&& (1 : Int32)))]))
    refine own_finS (t := .boolean) X24 hx Bd.returns (by simp) Bd.notSynchronized (hb hby at_317) (Q := (Q0 Z va vb vc vm h0 n0)) hG (by decide) (by decide) ?_
    show (Q0 Z va vb vc vm h0 n0) _ T24.heap _
    rw [e24]
    exact ⟨rfl, N24⟩
  · refine Ends.go (fun _ => XS.ifNo X14.here hx rfl (hb hby at_123) rfl ((if0 _ _).trans (feq (hm : ¬ ((vm &&& (1 : Int32)) = (0 : Int32)))).1)) ?_
    show Ends p.tables e below G (T14.setTop (mkF m 126 #[iv va, iv vb, iv vc, iv vm, rv b1, rv b5, iv ((((1 : Int32) &&& (1 : Int32)) &&& (1 : Int32)) &&& (1 : Int32))] []))
    refine Ends.go (fun _ => XS.iload X14.here hx rfl (hb hby at_126) rfl) ?_
    show Ends p.tables e below G (T14.setTop (mkF m 128 #[iv va, iv vb, iv vc, iv vm, rv b1, rv b5, iv ((((1 : Int32) &&& (1 : Int32)) &&& (1 : Int32)) &&& (1 : Int32))] [(.int ((((1 : Int32) &&& (1 : Int32)) &&& (1 : Int32)) &&& (1 : Int32)))]))
    refine Ends.go (fun _ => XS.aload X14.here hx rfl (hb hby at_128) rfl rfl) ?_
    show Ends p.tables e below G (T14.setTop (mkF m 130 #[iv va, iv vb, iv vc, iv vm, rv b1, rv b5, iv ((((1 : Int32) &&& (1 : Int32)) &&& (1 : Int32)) &&& (1 : Int32))] [(.ref b5), (.int ((((1 : Int32) &&& (1 : Int32)) &&& (1 : Int32)) &&& (1 : Int32)))]))
    obtain ⟨cq25, kq25, q25a, q25b, q25c⟩ := isOf hZ e14 E13
    obtain ⟨_, _, ⟨T25, L25, k25, n25⟩, -, X25, ⟨Lc25, hQ25, l25, y25, z25⟩, st25⟩ := X14.virtualBack hx (y := (⟨"com/example/dispatchbook/dispatchbook/amqp/WireReader", "octet", "()I"⟩ : MethodName)) (z := (⟨"com/example/dispatchbook/dispatchbook/amqp/WireReader", "octet", "()I"⟩ : MethodName)) hown (mvT hZ (hw _ (List.mem_of_getElem? (i := 36) rfl))) (mvT hZ (hw _ (List.mem_of_getElem? (i := 20) rfl))) (notFace_of_selects (args := #[]) (mvT hZ (hw _ (List.mem_of_getElem? (i := 22) rfl)))) (mvT hZ (hw _ (List.mem_of_getElem? (i := 22) rfl))) (mvT hZ (hw _ (List.mem_of_getElem? (i := 21) rfl))) (by decide) (backOf (W := 1) (rm4 l Z a0 hw [] b5 b1 (own_f va vb vc) (1 : Int32) (own_f va vb vc 0 &&& 255) (4 : Int32) 1 T13.heap n0 sz13 RR13 g_b5 (by decide) (by decide)) hZ (hw _ (List.mem_of_getElem? (i := 23) rfl)) (hw _ (List.mem_of_getElem? (i := 3) rfl)) (by decide) (by decide)) q25a q25c (g := (mkF m 130 #[iv va, iv vb, iv vc, iv vm, rv b1, rv b5, iv ((((1 : Int32) &&& (1 : Int32)) &&& (1 : Int32)) &&& (1 : Int32))] [(.ref b5), (.int ((((1 : Int32) &&& (1 : Int32)) &&& (1 : Int32)) &&& (1 : Int32)))])) rfl (by rw [hml]; rfl) (Steps.refl _) (argsL := []) (rest := [(.int ((((1 : Int32) &&& (1 : Int32)) &&& (1 : Int32)) &&& (1 : Int32)))]) (lenOf pd_2 rfl) rfl (by show 2 * 0 + _ ≤ _; exact Nat.le_of_eq rfl) (hb hby at_130) (fun _ _ => ⟨rfl, e14, (by decide : (((((((((((0 + 1) + 1) + 0) + 0) + 0) + 0) + 0) + 0) + 0) + 0) + 0) + 0 ≤ _), (by decide : (((((((((((0 + 3) + 4) + 0) + 0) + 0) + 0) + 0) + 0) + 0) + 0) + 0) + 0 ≤ _)⟩)
    dsimp only [Pt.U, Pt.locs, Pt.cells, Pt.slots] at X25 l25 y25 z25 st25 hQ25
    subst l25 y25 z25
    obtain ⟨rfl, N25q, Kq25, R25⟩ := hQ25
    have N25 := Fr.app N14 N25q
    have sz25 := Nat.le_trans sz13 Kq25.1
    have RR25 : RD Z T25.heap b5 b1 (own_f va vb vc) (2 : Int32) (own_f va vb vc 0 &&& 255) (8 : Int32) := R25
    have E25 := R25.1
    refine Ends.go (fun _ => st25.trans) ?_
    show Ends p.tables e below G (T25.setTop (mkF m 133 #[iv va, iv vb, iv vc, iv vm, rv b1, rv b5, iv ((((1 : Int32) &&& (1 : Int32)) &&& (1 : Int32)) &&& (1 : Int32))] [(.int (own_f va vb vc 1 &&& 255)), (.int ((((1 : Int32) &&& (1 : Int32)) &&& (1 : Int32)) &&& (1 : Int32)))]))
    refine Ends.go (fun _ => XS.iloadN X25.here hx rfl (hb hby at_133) rfl) ?_
    show Ends p.tables e below G (T25.setTop (mkF m 134 #[iv va, iv vb, iv vc, iv vm, rv b1, rv b5, iv ((((1 : Int32) &&& (1 : Int32)) &&& (1 : Int32)) &&& (1 : Int32))] [(.int vb), (.int (own_f va vb vc 1 &&& 255)), (.int ((((1 : Int32) &&& (1 : Int32)) &&& (1 : Int32)) &&& (1 : Int32)))]))
    refine Ends.go (fun _ => XS.sipush X25.here hx rfl (hb hby at_134)) ?_
    show Ends p.tables e below G (T25.setTop (mkF m 137 #[iv va, iv vb, iv vc, iv vm, rv b1, rv b5, iv ((((1 : Int32) &&& (1 : Int32)) &&& (1 : Int32)) &&& (1 : Int32))] [(.int (255 : Int32)), (.int vb), (.int (own_f va vb vc 1 &&& 255)), (.int ((((1 : Int32) &&& (1 : Int32)) &&& (1 : Int32)) &&& (1 : Int32)))]))
    refine Ends.go (fun _ => XS.iand X25.here hx rfl (hb hby at_137) rfl) ?_
    show Ends p.tables e below G (T25.setTop (mkF m 138 #[iv va, iv vb, iv vc, iv vm, rv b1, rv b5, iv ((((1 : Int32) &&& (1 : Int32)) &&& (1 : Int32)) &&& (1 : Int32))] [(.int (vb &&& (255 : Int32))), (.int (own_f va vb vc 1 &&& 255)), (.int ((((1 : Int32) &&& (1 : Int32)) &&& (1 : Int32)) &&& (1 : Int32)))]))
    refine Ends.go (fun _ => XS.icmpNo X25.here hx rfl (hb hby at_138) rfl (teq (own_lo1 va vb vc : (own_f va vb vc 1 &&& 255) = (vb &&& (255 : Int32)))).2) ?_
    show Ends p.tables e below G (T25.setTop (mkF m 141 #[iv va, iv vb, iv vc, iv vm, rv b1, rv b5, iv ((((1 : Int32) &&& (1 : Int32)) &&& (1 : Int32)) &&& (1 : Int32))] [(.int ((((1 : Int32) &&& (1 : Int32)) &&& (1 : Int32)) &&& (1 : Int32)))]))
    refine Ends.go (fun _ => XS.iconst X25.here hx rfl (hb hby at_141)) ?_
    show Ends p.tables e below G (T25.setTop (mkF m 142 #[iv va, iv vb, iv vc, iv vm, rv b1, rv b5, iv ((((1 : Int32) &&& (1 : Int32)) &&& (1 : Int32)) &&& (1 : Int32))] [(.int (1 : Int32)), (.int ((((1 : Int32) &&& (1 : Int32)) &&& (1 : Int32)) &&& (1 : Int32)))]))
    refine Ends.go (fun _ => XS.goto X25.here hx rfl (pc0 := 142) (pc' := 146) rfl (hb hby at_142) (by decide) (by decide)) ?_
    show Ends p.tables e below G (T25.setTop (mkF m 146 #[iv va, iv vb, iv vc, iv vm, rv b1, rv b5, iv ((((1 : Int32) &&& (1 : Int32)) &&& (1 : Int32)) &&& (1 : Int32))] [(.int (1 : Int32)), (.int ((((1 : Int32) &&& (1 : Int32)) &&& (1 : Int32)) &&& (1 : Int32)))]))
    refine Ends.go (fun _ => XS.iand X25.here hx rfl (hb hby at_146) rfl) ?_
    show Ends p.tables e below G (T25.setTop (mkF m 147 #[iv va, iv vb, iv vc, iv vm, rv b1, rv b5, iv ((((1 : Int32) &&& (1 : Int32)) &&& (1 : Int32)) &&& (1 : Int32))] [(.int (((((1 : Int32) &&& (1 : Int32)) &&& (1 : Int32)) &&& (1 : Int32)) &&& (1 : Int32)))]))
    refine Ends.go (fun _ => XS.istore X25.here hx rfl (hb hby at_147) rfl (l' := #[iv va, iv vb, iv vc, iv vm, rv b1, rv b5, iv (((((1 : Int32) &&& (1 : Int32)) &&& (1 : Int32)) &&& (1 : Int32)) &&& (1 : Int32))]) rfl) ?_
    show Ends p.tables e below G (T25.setTop (mkF m 149 #[iv va, iv vb, iv vc, iv vm, rv b1, rv b5, iv (((((1 : Int32) &&& (1 : Int32)) &&& (1 : Int32)) &&& (1 : Int32)) &&& (1 : Int32))] []))
    refine Ends.go (fun _ => XS.iload X25.here hx rfl (hb hby at_149) rfl) ?_
    show Ends p.tables e below G (T25.setTop (mkF m 151 #[iv va, iv vb, iv vc, iv vm, rv b1, rv b5, iv (((((1 : Int32) &&& (1 : Int32)) &&& (1 : Int32)) &&& (1 : Int32)) &&& (1 : Int32))] [(.int (((((1 : Int32) &&& (1 : Int32)) &&& (1 : Int32)) &&& (1 : Int32)) &&& (1 : Int32)))]))
    refine Ends.go (fun _ => XS.aload X25.here hx rfl (hb hby at_151) rfl rfl) ?_
    show Ends p.tables e below G (T25.setTop (mkF m 153 #[iv va, iv vb, iv vc, iv vm, rv b1, rv b5, iv (((((1 : Int32) &&& (1 : Int32)) &&& (1 : Int32)) &&& (1 : Int32)) &&& (1 : Int32))] [(.ref b5), (.int (((((1 : Int32) &&& (1 : Int32)) &&& (1 : Int32)) &&& (1 : Int32)) &&& (1 : Int32)))]))
    obtain ⟨cq26, kq26, q26a, q26b, q26c⟩ := isOf hZ rfl E25
    obtain ⟨_, _, ⟨T26, L26, k26, n26⟩, -, X26, ⟨Lc26, hQ26, l26, y26, z26⟩, st26⟩ := X25.virtualBack hx (y := (⟨"com/example/dispatchbook/dispatchbook/amqp/WireReader", "bit", "()Z"⟩ : MethodName)) (z := (⟨"com/example/dispatchbook/dispatchbook/amqp/WireReader", "bit", "()Z"⟩ : MethodName)) hown (mvT hZ (hw _ (List.mem_of_getElem? (i := 14) rfl))) (mvT hZ (hw _ (List.mem_of_getElem? (i := 15) rfl))) (notFace_of_selects (args := #[]) (mvT hZ (hw _ (List.mem_of_getElem? (i := 17) rfl)))) (mvT hZ (hw _ (List.mem_of_getElem? (i := 17) rfl))) (mvT hZ (hw _ (List.mem_of_getElem? (i := 16) rfl))) (by decide) (backOf (W := 1) (rm3a l Z a0 hw [] b5 b1 (own_f va vb vc) (2 : Int32) (own_f va vb vc 0 &&& 255) 2 T25.heap n0 sz25 RR25 g_b5 (by decide) (by decide)) hZ (hw _ (List.mem_of_getElem? (i := 18) rfl)) (hw _ (List.mem_of_getElem? (i := 3) rfl)) (by decide) (by decide)) q26a q26c (g := (mkF m 153 #[iv va, iv vb, iv vc, iv vm, rv b1, rv b5, iv (((((1 : Int32) &&& (1 : Int32)) &&& (1 : Int32)) &&& (1 : Int32)) &&& (1 : Int32))] [(.ref b5), (.int (((((1 : Int32) &&& (1 : Int32)) &&& (1 : Int32)) &&& (1 : Int32)) &&& (1 : Int32)))])) rfl (by rw [hml]; rfl) (Steps.refl _) (argsL := []) (rest := [(.int (((((1 : Int32) &&& (1 : Int32)) &&& (1 : Int32)) &&& (1 : Int32)) &&& (1 : Int32)))]) (lenOf pd_4 rfl) rfl (by show 2 * 0 + _ ≤ _; exact Nat.le_of_eq rfl) (hb hby at_153) (fun _ _ => ⟨rfl, rfl, (by decide : ((((((((((((0 + 1) + 1) + 0) + 0) + 0) + 0) + 0) + 0) + 0) + 0) + 0) + 0) + 0 ≤ _), (by decide : ((((((((((((0 + 3) + 4) + 0) + 0) + 0) + 0) + 0) + 0) + 0) + 0) + 0) + 0) + 0 ≤ _)⟩)
    dsimp only [Pt.U, Pt.locs, Pt.cells, Pt.slots] at X26 l26 y26 z26 st26 hQ26
    subst l26 y26 z26
    obtain ⟨rfl, N26q, Kq26, R26⟩ := hQ26
    have N26 := Fr.app N25 N26q
    have sz26 := Nat.le_trans sz25 Kq26.1
    have RR26 : RD Z T26.heap b5 b1 (own_f va vb vc) (3 : Int32) (own_f va vb vc 2 &&& 255) (1 : Int32) := R26
    have E26 := R26.1
    refine Ends.go (fun _ => st26.trans) ?_
    show Ends p.tables e below G (T26.setTop (mkF m 156 #[iv va, iv vb, iv vc, iv vm, rv b1, rv b5, iv (((((1 : Int32) &&& (1 : Int32)) &&& (1 : Int32)) &&& (1 : Int32)) &&& (1 : Int32))] [(.int (bitAt (own_f va vb vc 2 &&& 255) 0)), (.int (((((1 : Int32) &&& (1 : Int32)) &&& (1 : Int32)) &&& (1 : Int32)) &&& (1 : Int32)))]))
    refine Ends.go (fun _ => XS.iloadN X26.here hx rfl (hb hby at_156) rfl) ?_
    show Ends p.tables e below G (T26.setTop (mkF m 157 #[iv va, iv vb, iv vc, iv vm, rv b1, rv b5, iv (((((1 : Int32) &&& (1 : Int32)) &&& (1 : Int32)) &&& (1 : Int32)) &&& (1 : Int32))] [(.int vc), (.int (bitAt (own_f va vb vc 2 &&& 255) 0)), (.int (((((1 : Int32) &&& (1 : Int32)) &&& (1 : Int32)) &&& (1 : Int32)) &&& (1 : Int32)))]))
    refine Ends.go (fun _ => XS.iconst X26.here hx rfl (hb hby at_157)) ?_
    show Ends p.tables e below G (T26.setTop (mkF m 158 #[iv va, iv vb, iv vc, iv vm, rv b1, rv b5, iv (((((1 : Int32) &&& (1 : Int32)) &&& (1 : Int32)) &&& (1 : Int32)) &&& (1 : Int32))] [(.int (0 : Int32)), (.int vc), (.int (bitAt (own_f va vb vc 2 &&& 255) 0)), (.int (((((1 : Int32) &&& (1 : Int32)) &&& (1 : Int32)) &&& (1 : Int32)) &&& (1 : Int32)))]))
    obtain ⟨_, _, ⟨T27, L27, k27, n27⟩, -, X27, ⟨Lc27, hQ27, l27, y27, z27⟩, st27⟩ := Jvm.LawKit.callS X26 hx (y := (⟨"com/example/dispatchbook/dispatchbook/amqp/WireReaderBitPinLaw", "bitOf", "(II)Z"⟩ : MethodName)) hown (mvT hZ (hw _ (List.mem_of_getElem? (i := 32) rfl))) (mvT hZ (hw _ (List.mem_of_getElem? (i := 33) rfl))) (mvT hZ (hw _ (List.mem_of_getElem? (i := 34) rfl))) (mvT hZ (hw _ (List.mem_of_getElem? (i := 35) rfl))) (by decide) (backOf (W := 2) (rm6 l Z a0 hw [] vc (0 : Int32) T26.heap n0 sz26) hZ (hw _ (List.mem_of_getElem? (i := 35) rfl)) (hw _ (List.mem_of_getElem? (i := 34) rfl)) (by decide) (by decide)) (g := (mkF m 158 #[iv va, iv vb, iv vc, iv vm, rv b1, rv b5, iv (((((1 : Int32) &&& (1 : Int32)) &&& (1 : Int32)) &&& (1 : Int32)) &&& (1 : Int32))] [(.int (0 : Int32)), (.int vc), (.int (bitAt (own_f va vb vc 2 &&& 255) 0)), (.int (((((1 : Int32) &&& (1 : Int32)) &&& (1 : Int32)) &&& (1 : Int32)) &&& (1 : Int32)))])) rfl (by rw [hml]; rfl) (argsL := [(.int vc), (.int (0 : Int32))]) (rest := [(.int (bitAt (own_f va vb vc 2 &&& 255) 0)), (.int (((((1 : Int32) &&& (1 : Int32)) &&& (1 : Int32)) &&& (1 : Int32)) &&& (1 : Int32)))]) (lenOf pd_5 rfl) rfl (by show 2 * 0 + _ ≤ _; exact Nat.le_of_eq rfl) (hb hby at_158) (fun _ _ => ⟨rfl, rfl, (by decide : (((((((((((((0 + 1) + 1) + 0) + 0) + 0) + 0) + 0) + 0) + 0) + 0) + 0) + 0) + 0) + 0 ≤ _), (by decide : (((((((((((((0 + 3) + 4) + 0) + 0) + 0) + 0) + 0) + 0) + 0) + 0) + 0) + 0) + 0) + 0 ≤ _)⟩)
    dsimp only [Pt.U, Pt.locs, Pt.cells, Pt.slots] at X27 l27 y27 z27 st27 hQ27
    subst l27 y27 z27
    obtain ⟨rfl, N27q, e27⟩ := hQ27
    have N27 := Fr.app N26 N27q
    refine Ends.go (fun _ => st27 _) ?_
    show Ends p.tables e below G (T27.setTop (mkF m 161 #[iv va, iv vb, iv vc, iv vm, rv b1, rv b5, iv (((((1 : Int32) &&& (1 : Int32)) &&& (1 : Int32)) &&& (1 : Int32)) &&& (1 : Int32))] [(.int (bitAt vc (0 : Int32))), (.int (bitAt (own_f va vb vc 2 &&& 255) 0)), (.int (((((1 : Int32) &&& (1 : Int32)) &&& (1 : Int32)) &&& (1 : Int32)) &&& (1 : Int32)))]))
    refine Ends.go (fun _ => XS.icmpNo X27.here hx rfl (hb hby at_161) rfl (teq (own_bk2 va vb vc ⟨0, by decide⟩ : (bitAt (own_f va vb vc 2 &&& 255) 0) = (bitAt vc (0 : Int32)))).2) ?_
    show Ends p.tables e below G (T27.setTop (mkF m 164 #[iv va, iv vb, iv vc, iv vm, rv b1, rv b5, iv (((((1 : Int32) &&& (1 : Int32)) &&& (1 : Int32)) &&& (1 : Int32)) &&& (1 : Int32))] [(.int (((((1 : Int32) &&& (1 : Int32)) &&& (1 : Int32)) &&& (1 : Int32)) &&& (1 : Int32)))]))
    refine Ends.go (fun _ => XS.iconst X27.here hx rfl (hb hby at_164)) ?_
    show Ends p.tables e below G (T27.setTop (mkF m 165 #[iv va, iv vb, iv vc, iv vm, rv b1, rv b5, iv (((((1 : Int32) &&& (1 : Int32)) &&& (1 : Int32)) &&& (1 : Int32)) &&& (1 : Int32))] [(.int (1 : Int32)), (.int (((((1 : Int32) &&& (1 : Int32)) &&& (1 : Int32)) &&& (1 : Int32)) &&& (1 : Int32)))]))
    refine Ends.go (fun _ => XS.goto X27.here hx rfl (pc0 := 165) (pc' := 169) rfl (hb hby at_165) (by decide) (by decide)) ?_
    show Ends p.tables e below G (T27.setTop (mkF m 169 #[iv va, iv vb, iv vc, iv vm, rv b1, rv b5, iv (((((1 : Int32) &&& (1 : Int32)) &&& (1 : Int32)) &&& (1 : Int32)) &&& (1 : Int32))] [(.int (1 : Int32)), (.int (((((1 : Int32) &&& (1 : Int32)) &&& (1 : Int32)) &&& (1 : Int32)) &&& (1 : Int32)))]))
    refine Ends.go (fun _ => XS.iand X27.here hx rfl (hb hby at_169) rfl) ?_
    show Ends p.tables e below G (T27.setTop (mkF m 170 #[iv va, iv vb, iv vc, iv vm, rv b1, rv b5, iv (((((1 : Int32) &&& (1 : Int32)) &&& (1 : Int32)) &&& (1 : Int32)) &&& (1 : Int32))] [(.int ((((((1 : Int32) &&& (1 : Int32)) &&& (1 : Int32)) &&& (1 : Int32)) &&& (1 : Int32)) &&& (1 : Int32)))]))
    refine Ends.go (fun _ => XS.istore X27.here hx rfl (hb hby at_170) rfl (l' := #[iv va, iv vb, iv vc, iv vm, rv b1, rv b5, iv ((((((1 : Int32) &&& (1 : Int32)) &&& (1 : Int32)) &&& (1 : Int32)) &&& (1 : Int32)) &&& (1 : Int32))]) rfl) ?_
    show Ends p.tables e below G (T27.setTop (mkF m 172 #[iv va, iv vb, iv vc, iv vm, rv b1, rv b5, iv ((((((1 : Int32) &&& (1 : Int32)) &&& (1 : Int32)) &&& (1 : Int32)) &&& (1 : Int32)) &&& (1 : Int32))] []))
    refine Ends.go (fun _ => XS.iload X27.here hx rfl (hb hby at_172) rfl) ?_
    show Ends p.tables e below G (T27.setTop (mkF m 174 #[iv va, iv vb, iv vc, iv vm, rv b1, rv b5, iv ((((((1 : Int32) &&& (1 : Int32)) &&& (1 : Int32)) &&& (1 : Int32)) &&& (1 : Int32)) &&& (1 : Int32))] [(.int ((((((1 : Int32) &&& (1 : Int32)) &&& (1 : Int32)) &&& (1 : Int32)) &&& (1 : Int32)) &&& (1 : Int32)))]))
    refine Ends.go (fun _ => XS.aload X27.here hx rfl (hb hby at_174) rfl rfl) ?_
    show Ends p.tables e below G (T27.setTop (mkF m 176 #[iv va, iv vb, iv vc, iv vm, rv b1, rv b5, iv ((((((1 : Int32) &&& (1 : Int32)) &&& (1 : Int32)) &&& (1 : Int32)) &&& (1 : Int32)) &&& (1 : Int32))] [(.ref b5), (.int ((((((1 : Int32) &&& (1 : Int32)) &&& (1 : Int32)) &&& (1 : Int32)) &&& (1 : Int32)) &&& (1 : Int32)))]))
    obtain ⟨cq28, kq28, q28a, q28b, q28c⟩ := isOf hZ e27 E26
    obtain ⟨_, _, ⟨T28, L28, k28, n28⟩, -, X28, ⟨Lc28, hQ28, l28, y28, z28⟩, st28⟩ := X27.virtualBack hx (y := (⟨"com/example/dispatchbook/dispatchbook/amqp/WireReader", "bit", "()Z"⟩ : MethodName)) (z := (⟨"com/example/dispatchbook/dispatchbook/amqp/WireReader", "bit", "()Z"⟩ : MethodName)) hown (mvT hZ (hw _ (List.mem_of_getElem? (i := 14) rfl))) (mvT hZ (hw _ (List.mem_of_getElem? (i := 15) rfl))) (notFace_of_selects (args := #[]) (mvT hZ (hw _ (List.mem_of_getElem? (i := 17) rfl)))) (mvT hZ (hw _ (List.mem_of_getElem? (i := 17) rfl))) (mvT hZ (hw _ (List.mem_of_getElem? (i := 16) rfl))) (by decide) (backOf (W := 1) (rm3b l Z a0 hw [] b5 b1 (own_f va vb vc) (3 : Int32) (own_f va vb vc 2 &&& 255) (1 : Int32) T26.heap n0 sz26 RR26 g_b5 (by decide)) hZ (hw _ (List.mem_of_getElem? (i := 18) rfl)) (hw _ (List.mem_of_getElem? (i := 3) rfl)) (by decide) (by decide)) q28a q28c (g := (mkF m 176 #[iv va, iv vb, iv vc, iv vm, rv b1, rv b5, iv ((((((1 : Int32) &&& (1 : Int32)) &&& (1 : Int32)) &&& (1 : Int32)) &&& (1 : Int32)) &&& (1 : Int32))] [(.ref b5), (.int ((((((1 : Int32) &&& (1 : Int32)) &&& (1 : Int32)) &&& (1 : Int32)) &&& (1 : Int32)) &&& (1 : Int32)))])) rfl (by rw [hml]; rfl) (Steps.refl _) (argsL := []) (rest := [(.int ((((((1 : Int32) &&& (1 : Int32)) &&& (1 : Int32)) &&& (1 : Int32)) &&& (1 : Int32)) &&& (1 : Int32)))]) (lenOf pd_4 rfl) rfl (by show 2 * 0 + _ ≤ _; exact Nat.le_of_eq rfl) (hb hby at_176) (fun _ _ => ⟨rfl, e27, (by decide : ((((((((((((((0 + 1) + 1) + 0) + 0) + 0) + 0) + 0) + 0) + 0) + 0) + 0) + 0) + 0) + 0) + 0 ≤ _), (by decide : ((((((((((((((0 + 3) + 4) + 0) + 0) + 0) + 0) + 0) + 0) + 0) + 0) + 0) + 0) + 0) + 0) + 0 ≤ _)⟩)
    dsimp only [Pt.U, Pt.locs, Pt.cells, Pt.slots] at X28 l28 y28 z28 st28 hQ28
    subst l28 y28 z28
    obtain ⟨rfl, N28q, Kq28, R28⟩ := hQ28
    have N28 := Fr.app N27 N28q
    have sz28 := Nat.le_trans sz26 Kq28.1
    have RR28 : RD Z T28.heap b5 b1 (own_f va vb vc) (3 : Int32) (own_f va vb vc 2 &&& 255) (2 : Int32) := R28
    have E28 := R28.1
    refine Ends.go (fun _ => st28.trans) ?_
    show Ends p.tables e below G (T28.setTop (mkF m 179 #[iv va, iv vb, iv vc, iv vm, rv b1, rv b5, iv ((((((1 : Int32) &&& (1 : Int32)) &&& (1 : Int32)) &&& (1 : Int32)) &&& (1 : Int32)) &&& (1 : Int32))] [(.int (bitAt (own_f va vb vc 2 &&& 255) (1 : Int32))), (.int ((((((1 : Int32) &&& (1 : Int32)) &&& (1 : Int32)) &&& (1 : Int32)) &&& (1 : Int32)) &&& (1 : Int32)))]))
    refine Ends.go (fun _ => XS.iloadN X28.here hx rfl (hb hby at_179) rfl) ?_
    show Ends p.tables e below G (T28.setTop (mkF m 180 #[iv va, iv vb, iv vc, iv vm, rv b1, rv b5, iv ((((((1 : Int32) &&& (1 : Int32)) &&& (1 : Int32)) &&& (1 : Int32)) &&& (1 : Int32)) &&& (1 : Int32))] [(.int vc), (.int (bitAt (own_f va vb vc 2 &&& 255) (1 : Int32))), (.int ((((((1 : Int32) &&& (1 : Int32)) &&& (1 : Int32)) &&& (1 : Int32)) &&& (1 : Int32)) &&& (1 : Int32)))]))
    refine Ends.go (fun _ => XS.iconst X28.here hx rfl (hb hby at_180)) ?_
    show Ends p.tables e below G (T28.setTop (mkF m 181 #[iv va, iv vb, iv vc, iv vm, rv b1, rv b5, iv ((((((1 : Int32) &&& (1 : Int32)) &&& (1 : Int32)) &&& (1 : Int32)) &&& (1 : Int32)) &&& (1 : Int32))] [(.int (1 : Int32)), (.int vc), (.int (bitAt (own_f va vb vc 2 &&& 255) (1 : Int32))), (.int ((((((1 : Int32) &&& (1 : Int32)) &&& (1 : Int32)) &&& (1 : Int32)) &&& (1 : Int32)) &&& (1 : Int32)))]))
    obtain ⟨_, _, ⟨T29, L29, k29, n29⟩, -, X29, ⟨Lc29, hQ29, l29, y29, z29⟩, st29⟩ := Jvm.LawKit.callS X28 hx (y := (⟨"com/example/dispatchbook/dispatchbook/amqp/WireReaderBitPinLaw", "bitOf", "(II)Z"⟩ : MethodName)) hown (mvT hZ (hw _ (List.mem_of_getElem? (i := 32) rfl))) (mvT hZ (hw _ (List.mem_of_getElem? (i := 33) rfl))) (mvT hZ (hw _ (List.mem_of_getElem? (i := 34) rfl))) (mvT hZ (hw _ (List.mem_of_getElem? (i := 35) rfl))) (by decide) (backOf (W := 2) (rm6 l Z a0 hw [] vc (1 : Int32) T28.heap n0 sz28) hZ (hw _ (List.mem_of_getElem? (i := 35) rfl)) (hw _ (List.mem_of_getElem? (i := 34) rfl)) (by decide) (by decide)) (g := (mkF m 181 #[iv va, iv vb, iv vc, iv vm, rv b1, rv b5, iv ((((((1 : Int32) &&& (1 : Int32)) &&& (1 : Int32)) &&& (1 : Int32)) &&& (1 : Int32)) &&& (1 : Int32))] [(.int (1 : Int32)), (.int vc), (.int (bitAt (own_f va vb vc 2 &&& 255) (1 : Int32))), (.int ((((((1 : Int32) &&& (1 : Int32)) &&& (1 : Int32)) &&& (1 : Int32)) &&& (1 : Int32)) &&& (1 : Int32)))])) rfl (by rw [hml]; rfl) (argsL := [(.int vc), (.int (1 : Int32))]) (rest := [(.int (bitAt (own_f va vb vc 2 &&& 255) (1 : Int32))), (.int ((((((1 : Int32) &&& (1 : Int32)) &&& (1 : Int32)) &&& (1 : Int32)) &&& (1 : Int32)) &&& (1 : Int32)))]) (lenOf pd_5 rfl) rfl (by show 2 * 0 + _ ≤ _; exact Nat.le_of_eq rfl) (hb hby at_181) (fun _ _ => ⟨rfl, rfl, (by decide : (((((((((((((((0 + 1) + 1) + 0) + 0) + 0) + 0) + 0) + 0) + 0) + 0) + 0) + 0) + 0) + 0) + 0) + 0 ≤ _), (by decide : (((((((((((((((0 + 3) + 4) + 0) + 0) + 0) + 0) + 0) + 0) + 0) + 0) + 0) + 0) + 0) + 0) + 0) + 0 ≤ _)⟩)
    dsimp only [Pt.U, Pt.locs, Pt.cells, Pt.slots] at X29 l29 y29 z29 st29 hQ29
    subst l29 y29 z29
    obtain ⟨rfl, N29q, e29⟩ := hQ29
    have N29 := Fr.app N28 N29q
    refine Ends.go (fun _ => st29 _) ?_
    show Ends p.tables e below G (T29.setTop (mkF m 184 #[iv va, iv vb, iv vc, iv vm, rv b1, rv b5, iv ((((((1 : Int32) &&& (1 : Int32)) &&& (1 : Int32)) &&& (1 : Int32)) &&& (1 : Int32)) &&& (1 : Int32))] [(.int (bitAt vc (1 : Int32))), (.int (bitAt (own_f va vb vc 2 &&& 255) (1 : Int32))), (.int ((((((1 : Int32) &&& (1 : Int32)) &&& (1 : Int32)) &&& (1 : Int32)) &&& (1 : Int32)) &&& (1 : Int32)))]))
    refine Ends.go (fun _ => XS.icmpNo X29.here hx rfl (hb hby at_184) rfl (teq (own_bk2 va vb vc ⟨1, by decide⟩ : (bitAt (own_f va vb vc 2 &&& 255) (1 : Int32)) = (bitAt vc (1 : Int32)))).2) ?_
    show Ends p.tables e below G (T29.setTop (mkF m 187 #[iv va, iv vb, iv vc, iv vm, rv b1, rv b5, iv ((((((1 : Int32) &&& (1 : Int32)) &&& (1 : Int32)) &&& (1 : Int32)) &&& (1 : Int32)) &&& (1 : Int32))] [(.int ((((((1 : Int32) &&& (1 : Int32)) &&& (1 : Int32)) &&& (1 : Int32)) &&& (1 : Int32)) &&& (1 : Int32)))]))
    refine Ends.go (fun _ => XS.iconst X29.here hx rfl (hb hby at_187)) ?_
    show Ends p.tables e below G (T29.setTop (mkF m 188 #[iv va, iv vb, iv vc, iv vm, rv b1, rv b5, iv ((((((1 : Int32) &&& (1 : Int32)) &&& (1 : Int32)) &&& (1 : Int32)) &&& (1 : Int32)) &&& (1 : Int32))] [(.int (1 : Int32)), (.int ((((((1 : Int32) &&& (1 : Int32)) &&& (1 : Int32)) &&& (1 : Int32)) &&& (1 : Int32)) &&& (1 : Int32)))]))
    refine Ends.go (fun _ => XS.goto X29.here hx rfl (pc0 := 188) (pc' := 192) rfl (hb hby at_188) (by decide) (by decide)) ?_
    show Ends p.tables e below G (T29.setTop (mkF m 192 #[iv va, iv vb, iv vc, iv vm, rv b1, rv b5, iv ((((((1 : Int32) &&& (1 : Int32)) &&& (1 : Int32)) &&& (1 : Int32)) &&& (1 : Int32)) &&& (1 : Int32))] [(.int (1 : Int32)), (.int ((((((1 : Int32) &&& (1 : Int32)) &&& (1 : Int32)) &&& (1 : Int32)) &&& (1 : Int32)) &&& (1 : Int32)))]))
    refine Ends.go (fun _ => XS.iand X29.here hx rfl (hb hby at_192) rfl) ?_
    show Ends p.tables e below G (T29.setTop (mkF m 193 #[iv va, iv vb, iv vc, iv vm, rv b1, rv b5, iv ((((((1 : Int32) &&& (1 : Int32)) &&& (1 : Int32)) &&& (1 : Int32)) &&& (1 : Int32)) &&& (1 : Int32))] [(.int (((((((1 : Int32) &&& (1 : Int32)) &&& (1 : Int32)) &&& (1 : Int32)) &&& (1 : Int32)) &&& (1 : Int32)) &&& (1 : Int32)))]))
    refine Ends.go (fun _ => XS.istore X29.here hx rfl (hb hby at_193) rfl (l' := #[iv va, iv vb, iv vc, iv vm, rv b1, rv b5, iv (((((((1 : Int32) &&& (1 : Int32)) &&& (1 : Int32)) &&& (1 : Int32)) &&& (1 : Int32)) &&& (1 : Int32)) &&& (1 : Int32))]) rfl) ?_
    show Ends p.tables e below G (T29.setTop (mkF m 195 #[iv va, iv vb, iv vc, iv vm, rv b1, rv b5, iv (((((((1 : Int32) &&& (1 : Int32)) &&& (1 : Int32)) &&& (1 : Int32)) &&& (1 : Int32)) &&& (1 : Int32)) &&& (1 : Int32))] []))
    refine Ends.go (fun _ => XS.goto X29.here hx rfl (pc0 := 195) (pc' := 315) rfl (hb hby at_195) (by decide) (by decide)) ?_
    show Ends p.tables e below G (T29.setTop (mkF m 315 #[iv va, iv vb, iv vc, iv vm, rv b1, rv b5, iv (((((((1 : Int32) &&& (1 : Int32)) &&& (1 : Int32)) &&& (1 : Int32)) &&& (1 : Int32)) &&& (1 : Int32)) &&& (1 : Int32))] []))
    refine Ends.go (fun _ => XS.iload X29.here hx rfl (hb hby at_315) rfl) ?_
    show Ends p.tables e below G (T29.setTop (mkF m 317 #[iv va, iv vb, iv vc, iv vm, rv b1, rv b5, iv (((((((1 : Int32) &&& (1 : Int32)) &&& (1 : Int32)) &&& (1 : Int32)) &&& (1 : Int32)) &&& (1 : Int32)) &&& (1 : Int32))] [(.int (((((((1 : Int32) &&& (1 : Int32)) &&& (1 : Int32)) &&& (1 : Int32)) &&& (1 : Int32)) &&& (1 : Int32)) &&& (1 : Int32)))]))
    refine own_finS (t := .boolean) X29 hx Bd.returns (by simp) Bd.notSynchronized (hb hby at_317) (Q := (Q0 Z va vb vc vm h0 n0)) hG (by decide) (by decide) ?_
    show (Q0 Z va vb vc vm h0 n0) _ T29.heap _
    rw [e29]
    exact ⟨rfl, N29⟩
set_option maxRecDepth 65536 in
set_option maxHeartbeats 40000000 in
theorem comes_1 {Post : Tables → Env → Array Value → State → Outcome → State → Prop} (hpost : ∀ tb e args s v u, (limb_1_1.after args s (.returned v) u = true ∧ limb_1_2.after args s (.returned v) u = true ∧ True) → FrameEnd s (.returned v) u (Jvm.fieldLocs frame_1_writes args s ++ Jvm.arrayLocs frame_1_arrays args s ++ Jvm.staticLocs frame_1_statics s) 16 128 → Post tb e args s (.returned v) u) :
    ArmFor flags0 classFile x code maxLocals ret World_1 tables_1 room_1 Calls_1 rest_1 Pre_1 Post := by
  intro l hfl _ _ p e ha hc hk s m args below hf hA hF happ hP
  obtain ⟨hcalls, hrest, hpre⟩ := hP
  obtain ⟨-, -, -, hnamed, -, -, -, hat⟩ := (Spec.applies_iff hf).mp happ
  obtain ⟨hg, hn⟩ := and_e (Cond.before_iff.mp (show (Jvm.Cond.and given_1 narrow_1).before args s = true from hpre))
  obtain ⟨gg1, gg2⟩ := and_e hg
  obtain ⟨gg3, gg4⟩ := and_e gg2
  obtain ⟨gg5, gg6⟩ := and_e gg4
  obtain ⟨gg7, gg8⟩ := and_e gg6
  obtain ⟨w0, w1, w2, w3, rfl⟩ : ∃ w0 w1 w2 w3 : Value, args = #[w0, w1, w2, w3] := by
    have hs : args.size = 4 := by simpa [Cond.value, given_1] using gg1
    obtain ⟨L⟩ := args
    match L, hs with
    | [w0, w1, w2, w3], _ => exact ⟨w0, w1, w2, w3, rfl⟩
  have hw := fun d (hd : d ∈ tables_1) => atoms_spec (ws := Jvm.Cond.code x code maxLocals ret :: tables_1) hat d (List.mem_cons_of_mem _ hd)
  obtain ⟨i0, ei0⟩ := is_v gg3
  obtain rfl : w0 = (.int i0) := Option.some.inj ei0
  obtain ⟨i1, ei1⟩ := is_v gg5
  obtain rfl : w1 = (.int i1) := Option.some.inj ei1
  obtain ⟨i2, ei2⟩ := is_v gg7
  obtain rfl : w2 = (.int i2) := Option.some.inj ei2
  obtain ⟨i3, ei3⟩ := is_v gg8
  obtain rfl : w3 = (.int i3) := Option.some.inj ei3
  obtain ⟨n, o, h1, h2, h3, _, L, rfl, ⟨rfl, N⟩, hq⟩ := rm0 l s _ hw tables_1 i0 i1 i2 i3 s.heap s.heap.size (Nat.le_refl _)  p e ha hc hk s m _ below hf ((Spec.applies_iff_loose hf).mp happ).1 ⟨rfl, State.Warmed39.refl s, rfl⟩ trivial
  refine ⟨n, _, h1, h2, h3, hpost _ _ _ _ _ _ ⟨Cond.after_iff.mpr rfl, Cond.after_iff.mpr (eq_i res_at (Term.int_eval (1)) rfl), trivial⟩ ⟨hq.1, hq.2.1, (hq.2.2.sift fun y hy => Or.inr (N y hy)).mono (by decide) (by decide)⟩⟩
theorem main_1_1 : Claimed_1_1 := comes_1 fun _ _ _ _ _ _ h hF => ⟨h.1, hF⟩
theorem main_1_2 : Claimed_1_2 := comes_1 fun _ _ _ _ _ _ h hF => ⟨h.2.1, hF⟩
end Jvm.Pilot.@@N@@
namespace Jvm.Pilot.@@N@@
open Jvm Jvm.ClassFile Sem Op Lib Jvm.Free Jvm.Stand Jvm.Pilot.@@N@@.Jvm.D
/-! MADE BY PROGRAM (witnessworld.py) out of the Statement's table words and the real class files: 9 classes; the members and pool entries that the words name. The judged class is class 1, her method 2. -/
namespace start1
open Jvm.ClassFile
def u (s : String) : CpInfo := .utf8 (stringToUtf16 s)
/-- a pool by its gaps: so many unusable entries, then the entry; so many at the end -/
def gap : Nat → List CpInfo → List CpInfo
  | 0, r => r
  | n + 1, r => .unusable :: gap n r
def poolList (es : List (Nat × CpInfo)) (last : Nat) : List CpInfo := es.foldr (fun e r => gap e.1 (e.2 :: r)) (gap last [])
def pool (es : List (Nat × CpInfo)) (last : Nat) : Array CpInfo := ⟨poolList es last⟩
def fileOf (pool : Array CpInfo) (this : Nat) (attrs : Array Attribute := #[]) (ms : Array MethodInfo := #[]) (fl : Nat := 33) (sup : Nat := 0) (ifs : Array Nat := #[]) (fds : Array FieldInfo := #[]) : ClassFile where
  minorVersion := 0
  majorVersion := 65
  constantPool := pool
  accessFlags := fl
  thisClass := this
  superClass := sup
  interfaces := ifs
  fields := fds
  methods := ms
  attributes := attrs
def plain (name : String) (sup : Option ClassId) : Class where
  name := name
  kind := .ordinary
  loader := none
  accessFlags := 33
  super := sup
  interfaces := #[]
  cf := none
  fields := #[]
  methods := #[]
  instanceTypes := #[]
  staticTypes := #[]
  resolved := #[]
  callSites := []
  init := .initialized
  statics := none
  mirror := none

def pool0 : Array CpInfo := pool [(5, u "<init>"), (0, u "()V"), (1, .class_ 10), (1, u "java/lang/Object")] 113

def k0c0 : Code := { maxStack := 0, maxLocals := 1, code := object_method_1_code, exceptionTable := #[], attributes := #[] }
def k0m0 : Method := { name := "<init>", desc := "()V", sig := { parameters := [], returnType := none }, accessFlags := 1, code := some k0c0 }
/-- java/lang/Object -/
def k0 : Class := { plain "java/lang/Object" none with
  accessFlags := 33
  interfaces := #[]
  cf := some (fileOf pool0 8 #[] #[{ accessFlags := 1, nameIndex := 5, descriptorIndex := 6, attributes := #[] }] 33 0 #[] #[])
  fields := #[]
  methods := #[k0m0]
  instanceTypes := #[]
  staticTypes := #[]
  resolved := Array.replicate 124 none
  statics := none }

def pool1 : Array CpInfo := pool [(2, .class_ 4), (1, u "java/lang/Object"), (0, u "<init>"), (0, u "()V"), (0, .class_ 8), (0, u "com/example/dispatchbook/dispatchbook/amqp/WireReader"), (0, .methodref 7 10), (0, .nameAndType 5 11), (0, u "([B)V"), (0, .methodref 7 13), (0, .nameAndType 14 15), (0, u "bit"), (0, u "()Z"), (0, .methodref 17 18), (0, .class_ 19), (0, .nameAndType 20 21), (0, u "com/example/dispatchbook/dispatchbook/amqp/WireReaderBitPinLaw"), (0, u "bitOf"), (0, u "(II)Z"), (0, .methodref 7 23), (0, .nameAndType 24 25), (0, u "octet"), (0, u "()I"), (3, u "law"), (0, u "(IIII)Z")] 7

def k1m0 : Method := { name := "<init>", desc := "()V", sig := { parameters := [], returnType := none }, accessFlags := 1, code := none }
def k1c1 : Code := { maxStack := 2, maxLocals := 2, code := method_2_code, exceptionTable := #[], attributes := #[] }
def k1m1 : Method := { name := "bitOf", desc := "(II)Z", sig := { parameters := [.int, .int], returnType := some .boolean }, accessFlags := 10, code := some k1c1 }
def k1c2 : Code := { maxStack := 4, maxLocals := 7, code := code, exceptionTable := #[], attributes := #[] }
def k1m2 : Method := { name := "law", desc := "(IIII)Z", sig := { parameters := [.int, .int, .int, .int], returnType := some .boolean }, accessFlags := 9, code := some k1c2 }
/-- com/example/dispatchbook/dispatchbook/amqp/WireReaderBitPinLaw -/
def k1 : Class := { plain "com/example/dispatchbook/dispatchbook/amqp/WireReaderBitPinLaw" (some 0) with
  accessFlags := 49
  interfaces := #[]
  cf := some (fileOf pool1 17 #[] #[{ accessFlags := 1, nameIndex := 5, descriptorIndex := 6, attributes := #[] }, { accessFlags := 10, nameIndex := 20, descriptorIndex := 21, attributes := #[] }, { accessFlags := 9, nameIndex := 29, descriptorIndex := 30, attributes := #[] }] 49 2 #[] #[])
  fields := #[]
  methods := #[k1m0, k1m1, k1m2]
  instanceTypes := #[]
  staticTypes := #[]
  resolved := Array.replicate 38 none
  statics := none }

def pool2 : Array CpInfo := pool [(1, .methodref 2 3), (0, .class_ 4), (0, .nameAndType 5 6), (0, u "java/lang/Object"), (0, u "<init>"), (0, u "()V"), (0, .fieldref 8 9), (0, .class_ 10), (0, .nameAndType 11 12), (0, u "com/example/dispatchbook/dispatchbook/amqp/WireReader"), (0, u "bitCount"), (0, u "I"), (0, .fieldref 8 14), (0, .nameAndType 15 16), (0, u "bytes"), (0, u "[B"), (0, .methodref 8 18), (0, .nameAndType 19 20), (0, u "require"), (0, u "(I)V"), (0, .fieldref 8 22), (0, .nameAndType 23 12), (0, u "position"), (0, .methodref 8 25), (0, .nameAndType 26 27), (0, u "octet"), (0, u "()I"), (31, .fieldref 8 60), (0, .nameAndType 61 12), (0, u "bits"), (13, u "([B)V"), (7, u "bit"), (0, u "()Z")] 20

def k2c0 : Code := { maxStack := 2, maxLocals := 2, code := prog_11_method_1_code, exceptionTable := #[], attributes := #[] }
def k2m0 : Method := { name := "<init>", desc := "([B)V", sig := { parameters := [(.array .byte)], returnType := none }, accessFlags := 0, code := some k2c0 }
def k2c1 : Code := { maxStack := 5, maxLocals := 1, code := prog_11_method_2_code, exceptionTable := #[], attributes := #[] }
def k2m1 : Method := { name := "octet", desc := "()I", sig := { parameters := [], returnType := some .int }, accessFlags := 0, code := some k2c1 }
def k2c2 : Code := { maxStack := 5, maxLocals := 1, code := prog_11_method_8_code, exceptionTable := #[], attributes := #[] }
def k2m2 : Method := { name := "bit", desc := "()Z", sig := { parameters := [], returnType := some .boolean }, accessFlags := 0, code := some k2c2 }
def k2c3 : Code := { maxStack := 3, maxLocals := 2, code := prog_11_method_11_code, exceptionTable := #[], attributes := #[] }
def k2m3 : Method := { name := "require", desc := "(I)V", sig := { parameters := [.int], returnType := none }, accessFlags := 2, code := some k2c3 }
/-- com/example/dispatchbook/dispatchbook/amqp/WireReader -/
def k2 : Class := { plain "com/example/dispatchbook/dispatchbook/amqp/WireReader" (some 0) with
  accessFlags := 48
  interfaces := #[]
  cf := some (fileOf pool2 8 #[] #[{ accessFlags := 0, nameIndex := 5, descriptorIndex := 75, attributes := #[] }, { accessFlags := 0, nameIndex := 26, descriptorIndex := 27, attributes := #[] }, { accessFlags := 0, nameIndex := 83, descriptorIndex := 84, attributes := #[] }, { accessFlags := 2, nameIndex := 19, descriptorIndex := 20, attributes := #[] }] 48 2 #[] #[{ accessFlags := 18, nameIndex := 15, descriptorIndex := 16, attributes := #[] }, { accessFlags := 2, nameIndex := 23, descriptorIndex := 12, attributes := #[] }, { accessFlags := 2, nameIndex := 61, descriptorIndex := 12, attributes := #[] }, { accessFlags := 2, nameIndex := 11, descriptorIndex := 12, attributes := #[] }])
  fields := #[{ name := "bytes", type := (.array .byte), accessFlags := 18, slot := 0, constantValue := 0 }, { name := "position", type := .int, accessFlags := 2, slot := 1, constantValue := 0 }, { name := "bits", type := .int, accessFlags := 2, slot := 2, constantValue := 0 }, { name := "bitCount", type := .int, accessFlags := 2, slot := 3, constantValue := 0 }]
  methods := #[k2m0, k2m1, k2m2, k2m3]
  instanceTypes := #[(.array .byte), .int, .int, .int]
  staticTypes := #[]
  resolved := Array.replicate 105 none
  statics := none }

def pool3 : Array CpInfo := pool [(1, u "java/lang/Cloneable"), (0, .class_ 1), (0, u "java/lang/Object"), (0, .class_ 3)] 3

/-- java/lang/Cloneable -/
def k3 : Class := { plain "java/lang/Cloneable" (some 0) with
  accessFlags := 1537
  interfaces := #[]
  cf := some (fileOf pool3 2 #[] #[] 1537 4 #[] #[])
  fields := #[]
  methods := #[]
  instanceTypes := #[]
  staticTypes := #[]
  resolved := Array.replicate 8 none
  statics := none }

def pool4 : Array CpInfo := pool [(1, u "java/io/Serializable"), (0, .class_ 1), (0, u "java/lang/Object"), (0, .class_ 3)] 3

/-- java/io/Serializable -/
def k4 : Class := { plain "java/io/Serializable" (some 0) with
  accessFlags := 1537
  interfaces := #[]
  cf := some (fileOf pool4 2 #[] #[] 1537 4 #[] #[])
  fields := #[]
  methods := #[]
  instanceTypes := #[]
  staticTypes := #[]
  resolved := Array.replicate 8 none
  statics := none }

/-- the primitive byte -/
def k5 : Class := { plain "byte" none with kind := .primitive 'B', accessFlags := 0x411 }
/-- [B -/
def k6 : Class := { plain "[B" (some 0) with kind := .array 5 .byte, interfaces := #[3, 4], accessFlags := 1041 }

/-- the primitive int -/
def k7 : Class := { plain "int" none with kind := .primitive 'I', accessFlags := 0x411 }
/-- [I -/
def k8 : Class := { plain "[I" (some 0) with kind := .array 7 .int, interfaces := #[3, 4], accessFlags := 1041 }

def heap : Heap := #[]
def classes : Array Class := #[k0, k1, k2, k3, k4, k5, k6, k7, k8]
def interned : List (Array UInt16 × Addr) := []
def slotsUsed : Nat := 0
def theMethod : MethodId := ⟨1, 2⟩
def args0 : Array Value := #[.int 5, .int 6, .int 7, .int 1]
def aboutOver (below : List Frame) : State where
  vm := { classes := classes, interned := interned.toArray }
  heap := heap
  slotsUsed := slotsUsed
  threads := #[{ frames := .invoking theMethod args0 :: below }]
def below0 : List Frame := [.native { method := ⟨0, 0⟩, args := #[] }]
def about1 : State := aboutOver below0
def p0 : Program := .bare "" "" ""
def e0 : Env := launch0.env 0 0 0
theorem w_frames : about1.frames = Frame.invoking theMethod args0 :: below0 := rfl
set_option maxRecDepth 65536 in
theorem w_args : argsFit about1.vm theMethod args0 = true := by decide +kernel
set_option maxRecDepth 65536 in
theorem w_heap : heapFits about1 = true := by decide +kernel
set_option maxRecDepth 65536 in
theorem w_runnable : about1.curStatus? = some .runnable := by decide +kernel
set_option maxRecDepth 65536 in
theorem w_alone : about1.alone = true := by decide +kernel
set_option maxRecDepth 65536 in
theorem w_named : about1.methodNamed? x = some theMethod := by decide +kernel
set_option maxRecDepth 65536 in
theorem w_hears : about1.hears theMethod below0 = true := by decide +kernel
set_option maxRecDepth 65536 in
theorem w_ripe : about1.ripe theMethod args0 below0 = true := by decide +kernel
theorem w_running : about1.status = .running := rfl
set_option maxRecDepth 65536 in
theorem w_room : about1.hasRoom e0.platform room_1 = true :=
  launch0.hasRoom_least _ room_1 (by decide +kernel) (by decide +kernel) (by decide +kernel) (by decide +kernel) (by decide +kernel) (by decide +kernel)
theorem allAtoms_all (ts : List Jvm.Cond) (a : Array Jvm.Value) (st : Jvm.State) : (allAtoms ts).before a st = ts.all (fun c => c.before a st) := by
  induction ts with
  | nil => rfl
  | cons c t ih =>
    show (Jvm.Cond.and c (allAtoms t)).before a st = _
    rw [Jvm.Cond.before_and, ih, List.all_cons]
def words1 : List Jvm.Cond := Jvm.Cond.code x code maxLocals ret :: tables_1
/-- a 'code' word, met by the world's own term for the bytes: nothing is compared byte by byte -/
theorem code_word {y : MethodName} {bytes : ByteArray} {mx : Nat} {rt : Option FieldType} {a : Array Value} {s : State} {m : MethodId} {meth : Method} {c : Code} (h1 : s.methodNamed? y = some m) (h2 : s.vm.method? m = some meth) (h3 : meth.code = some c) (h4 : c.code = bytes)
    (h5 : (c.maxLocals == mx && c.exceptionTable.isEmpty && decide (c.maxStack ≤ mostOperands) && decide (meth.sig.returnType = rt) && !meth.locks && decide (parseMethodDescriptor y.desc = some meth.sig)) = true) : (Jvm.Cond.code y bytes mx rt).before a s = true := by
  simp only [Bool.and_eq_true, beq_iff_eq, Bool.not_eq_true', decide_eq_true_eq] at h5
  obtain ⟨⟨⟨⟨⟨g1, g2⟩, g3⟩, g4⟩, g5⟩, g6⟩ := h5
  simp [Cond.before, Cond.holds, Cond.value, h1, h2, h3, h4, g1, g2, g3, g4, g5, g6]
def isCode : Jvm.Cond → Bool
  | .code _ _ _ _ => true
  | _ => false
theorem all_split {L : List Jvm.Cond} {P : Jvm.Cond → Bool} (h1 : L.all (fun c => isCode c || P c) = true) (h2 : ∀ c ∈ L.filter isCode, P c = true) : L.all P = true := by
  refine List.all_eq_true.mpr fun c hc => ?_
  have h := List.all_eq_true.mp h1 c hc
  rcases Bool.eq_false_or_eq_true (isCode c) with hi | hi
  · exact h2 c (List.mem_filter.mpr ⟨hc, hi⟩)
  · simpa [hi] using h
set_option maxRecDepth 65536 in
theorem w_c0 : (Jvm.Cond.code x code maxLocals ret).before args0 about1 = true := code_word (m := ⟨1, 2⟩) (meth := k1m2) (c := k1c2) (by decide +kernel) rfl rfl rfl (by decide +kernel)
set_option maxRecDepth 65536 in
theorem w_c1 : (Jvm.Cond.code ({ cls := "com/example/dispatchbook/dispatchbook/amqp/WireReader", name := "<init>", desc := "([B)V" } : Jvm.MethodName) prog_11_method_1_code (2 : Nat) (Option.none : Option Jvm.ClassFile.FieldType)).before args0 about1 = true := code_word (m := ⟨2, 0⟩) (meth := k2m0) (c := k2c0) (by decide +kernel) rfl rfl rfl (by decide +kernel)
set_option maxRecDepth 65536 in
theorem w_c2 : (Jvm.Cond.code ({ cls := "java/lang/Object", name := "<init>", desc := "()V" } : Jvm.MethodName) object_method_1_code (1 : Nat) (Option.none : Option Jvm.ClassFile.FieldType)).before args0 about1 = true := code_word (m := ⟨0, 0⟩) (meth := k0m0) (c := k0c0) (by decide +kernel) rfl rfl rfl (by decide +kernel)
set_option maxRecDepth 65536 in
theorem w_c3 : (Jvm.Cond.code ({ cls := "com/example/dispatchbook/dispatchbook/amqp/WireReader", name := "bit", desc := "()Z" } : Jvm.MethodName) prog_11_method_8_code (1 : Nat) (Option.some Jvm.ClassFile.FieldType.boolean)).before args0 about1 = true := code_word (m := ⟨2, 2⟩) (meth := k2m2) (c := k2c2) (by decide +kernel) rfl rfl rfl (by decide +kernel)
set_option maxRecDepth 65536 in
theorem w_c4 : (Jvm.Cond.code ({ cls := "com/example/dispatchbook/dispatchbook/amqp/WireReader", name := "octet", desc := "()I" } : Jvm.MethodName) prog_11_method_2_code (1 : Nat) (Option.some Jvm.ClassFile.FieldType.int)).before args0 about1 = true := code_word (m := ⟨2, 1⟩) (meth := k2m1) (c := k2c1) (by decide +kernel) rfl rfl rfl (by decide +kernel)
set_option maxRecDepth 65536 in
theorem w_c5 : (Jvm.Cond.code ({ cls := "com/example/dispatchbook/dispatchbook/amqp/WireReader", name := "require", desc := "(I)V" } : Jvm.MethodName) prog_11_method_11_code (2 : Nat) (Option.none : Option Jvm.ClassFile.FieldType)).before args0 about1 = true := code_word (m := ⟨2, 3⟩) (meth := k2m3) (c := k2c3) (by decide +kernel) rfl rfl rfl (by decide +kernel)
set_option maxRecDepth 65536 in
theorem w_c6 : (Jvm.Cond.code ({ cls := "com/example/dispatchbook/dispatchbook/amqp/WireReaderBitPinLaw", name := "bitOf", desc := "(II)Z" } : Jvm.MethodName) method_2_code (2 : Nat) (Option.some Jvm.ClassFile.FieldType.boolean)).before args0 about1 = true := code_word (m := ⟨1, 1⟩) (meth := k1m1) (c := k1c1) (by decide +kernel) rfl rfl rfl (by decide +kernel)
def codes1 : List Jvm.Cond := [Jvm.Cond.code x code maxLocals ret, Jvm.Cond.code ({ cls := "com/example/dispatchbook/dispatchbook/amqp/WireReader", name := "<init>", desc := "([B)V" } : Jvm.MethodName) prog_11_method_1_code (2 : Nat) (Option.none : Option Jvm.ClassFile.FieldType), Jvm.Cond.code ({ cls := "java/lang/Object", name := "<init>", desc := "()V" } : Jvm.MethodName) object_method_1_code (1 : Nat) (Option.none : Option Jvm.ClassFile.FieldType), Jvm.Cond.code ({ cls := "com/example/dispatchbook/dispatchbook/amqp/WireReader", name := "bit", desc := "()Z" } : Jvm.MethodName) prog_11_method_8_code (1 : Nat) (Option.some Jvm.ClassFile.FieldType.boolean), Jvm.Cond.code ({ cls := "com/example/dispatchbook/dispatchbook/amqp/WireReader", name := "octet", desc := "()I" } : Jvm.MethodName) prog_11_method_2_code (1 : Nat) (Option.some Jvm.ClassFile.FieldType.int), Jvm.Cond.code ({ cls := "com/example/dispatchbook/dispatchbook/amqp/WireReader", name := "require", desc := "(I)V" } : Jvm.MethodName) prog_11_method_11_code (2 : Nat) (Option.none : Option Jvm.ClassFile.FieldType), Jvm.Cond.code ({ cls := "com/example/dispatchbook/dispatchbook/amqp/WireReaderBitPinLaw", name := "bitOf", desc := "(II)Z" } : Jvm.MethodName) method_2_code (2 : Nat) (Option.some Jvm.ClassFile.FieldType.boolean)]
set_option maxRecDepth 65536 in
theorem codes_eq : words1.filter isCode = codes1 := rfl
theorem w_codes : ∀ c ∈ words1.filter isCode, c.before args0 about1 = true := by
  rw [codes_eq]
  intro c hc
  simp only [codes1, List.mem_cons, List.not_mem_nil, or_false] at hc
  rcases hc with rfl | rfl | rfl | rfl | rfl | rfl | rfl
  · exact w_c0
  · exact w_c1
  · exact w_c2
  · exact w_c3
  · exact w_c4
  · exact w_c5
  · exact w_c6
set_option maxRecDepth 65536 in
theorem w_t1 : (words1.take 24).all (fun c => isCode c || c.before args0 about1) = true := by decide +kernel
set_option maxRecDepth 65536 in
theorem w_t2 : (words1.drop 24).all (fun c => isCode c || c.before args0 about1) = true := by decide +kernel
theorem w_tables : (allAtoms (Jvm.Cond.code x code maxLocals ret :: tables_1)).before args0 about1 = true := by
  rw [allAtoms_all]
  show words1.all (fun c => c.before args0 about1) = true
  refine all_split ?_ w_codes
  rw [← List.take_append_drop 24 words1, List.all_append, w_t1, w_t2]
  rfl
set_option maxRecDepth 65536 in
theorem w_case : (Jvm.Cond.and given_1 narrow_1).before args0 about1 = true := by decide +kernel
theorem w_applies : (headSpec (Jvm.Cond.code x code maxLocals ret :: tables_1) room_1).applies x e0.platform about1 = true :=
  (Spec.applies_iff w_frames).mpr ⟨w_running, w_runnable, w_alone, w_named, w_hears, w_ripe, w_room, w_tables⟩
theorem atStart : AtStart classFile x code maxLocals ret World_1 tables_1 room_1 Calls_1 rest_1 Pre_1 launch0 p0 e0 about1 theMethod args0 below0 :=
  ⟨lists_1, trivial, launch0.admits_env _ _ _, launch0.least_env, fairChoices_fair.cas, fairChoices_fair.clock, w_frames, w_args, w_heap, w_applies, trivial, trivial, w_case⟩
end start1
theorem witness_1 : WitnessClaimed_1 := ⟨start1.p0, start1.e0, start1.about1, start1.theMethod, start1.args0, start1.below0, start1.atStart⟩
end Jvm.Pilot.@@N@@
