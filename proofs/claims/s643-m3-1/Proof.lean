import JvmDerived
import JvmDerived.Pilot.@@N@@Statement
import JvmDerived.Pilot.@@N@@Code
set_option linter.unusedVariables false
set_option linter.unusedSimpArgs false
namespace Jvm.RoadKit
open Sem ClassFile Op Lib Jvm.Stand Jvm.Free Jvm.LawKit
section New
variable {p : Program} {l : Launch} {e : Env} {R : Room} {s : State} {m : MethodId} {args : Array Value} {below : List Frame} {meth : Method} {c : Code} {T : State} {locs : List Loc} {cells slots : Nat}
theorem retI (X : Stand p l e R s m args below meth c T locs cells slots) (hx : p.tables.exec = Jvm.exec) {pc : Nat} {Ls : Array Slot} {z : Int32} {rest : List Value} (hret : meth.sig.returnType = some .int) (hd : decode c.code pc = .ok (.ireturn, 1)) {fs : List Frame}
    (hl : ∀ (f : JFrame) (acts : List Action), f.method = m → f.locked = none → f.entered = [] → (doReturn e (T.setTop f) acts (some (.int z))).1 = T.setFrames fs) : Steps p.tables e below (T.setTop (mkF m pc Ls (.int z :: rest))) (T.setFrames fs) := by
  have hm' : T.vm.method? m = some meth := X.method'
  have hn : narrow .int (.int z) = .int z := rfl
  show Steps p.tables e below (T.setTop { method := m, pc := pc, locals := Ls, stack := _ :: rest, locked := none }) _
  jvm_step X.here [X.here.top, hx, hd, hm', hret, hn]
  first | (intro acts; rw [hl _ acts rfl rfl rfl]) | rw [hl _ _ rfl rfl rfl]
  exact Steps.refl _
end New
end Jvm.RoadKit
namespace Jvm.Pilot.@@N@@
open Jvm Jvm.ClassFile Sem Op Lib Jvm.Free Jvm.Stand Jvm.LawKit Jvm.RoadKit Bundle Jvm.Pilot.@@N@@.Jvm.D
abbrev un : Slot := .unset
theorem own_tn {j : Int32} {i : Nat} (hj : j.toInt = (i : Int)) : j.toNatClampNeg = i := by
  simp only [Int32.toNatClampNeg, hj]; rfl
theorem own_inb {j : Int32} {i n k : Nat} (hj : j.toInt = (i : Int)) (hi : i < n) (hn : k = n) : ¬ (j < 0 ∨ k ≤ j.toNatClampNeg) := by
  rw [own_tn hj, hn]
  rintro (h | h)
  · rw [Int32.lt_iff_toInt_lt, hj] at h
    have e0 : (0 : Int32).toInt = 0 := rfl
    omega
  · omega
theorem own_selP {s : State} {a1 a2 : Array Value} {y : MethodName} {n : Nat} (wi : (Jvm.Cond.instantiable y.cls n).before a1 s = true) (hpriv : s.PrivateAt y) (hinst : (Jvm.Cond.instanceMethod y).before a2 s = true) (hy : y.cls ≠ "java/lang/invoke/MethodHandle" ∧ y.cls ≠ "java/lang/invoke/VarHandle") : (Jvm.Cond.selects y.cls y y).before a2 s = true := by
  obtain ⟨c, k, h1, h2, h3, h4, -⟩ := Cond.instantiable_spec wi
  exact selects_self_of_private h1 h2 (by simp at h4; exact h4.1) hpriv hinst hy
def Ends (tb : Tables) (e : Env) (below : List Frame) (G : State → Outcome → Prop) (S : State) : Prop := ∃ s₂ o, Steps tb e below S s₂ ∧ s₂.status = .running ∧ Ended s₂ below o ∧ G s₂ o
section OwnEnds
variable {tb : Tables} {e : Env} {below : List Frame} {G : State → Outcome → Prop} {S S' : State}
theorem Ends.go (h : ∀ t, Steps tb e below S' t → Steps tb e below S t) (k : Ends tb e below G S') : Ends tb e below G S := by
  obtain ⟨s₂, o, a, b⟩ := k
  exact ⟨s₂, o, h _ a, b⟩
theorem Ends.any (h : ∀ G', (∀ s₂ o, G s₂ o → G' s₂ o) → Ends tb e below G' S) : Ends tb e below G S := h G fun _ _ k => k
end OwnEnds
section OwnFin
variable {p : Program} {l : Launch} {e : Env} {R : Room} {s : State} {m : MethodId} {args : Array Value} {below : List Frame} {meth : Method} {c : Code} {T : State} {locs : List Loc} {cells slots : Nat} {G : State → Outcome → Prop}
theorem own_finI (X : Stand p l e R s m args below meth c T locs cells slots) (hx : p.tables.exec = Jvm.exec) {pc : Nat} {Ls : Array Slot} {z : Int32} {rest : List Value} (hret : meth.sig.returnType = some .int) (hlk : meth.locks = false) (hd : decode c.code pc = .ok (.ireturn, 1)) {Q : Option Value → Heap → List Loc → Prop} {C K : Nat}
    (hG : ∀ s₂ o, (∃ v L, o = .returned v ∧ Q v s₂.heap L ∧ FrameEnd s o s₂ L C K) → G s₂ o) (hC : cells ≤ C) (hK : slots ≤ K) (hQ : Q (some (.int z)) T.heap locs) : Ends p.tables e below G (T.setTop (mkF m pc Ls (.int z :: rest))) := by
  obtain ⟨fs, hr, hrun, hended, hW, hsame⟩ := X.leave (v := some (.int z)) (fun h => by rw [hret] at h; cases h)
  exact ⟨_, _, retI X hx hret hd hr, hrun, hended, hG _ _ ⟨_, _, rfl, hQ, ⟨_, rfl⟩, hW, hsame.mono hC hK⟩⟩
theorem own_finS (X : Stand p l e R s m args below meth c T locs cells slots) (hx : p.tables.exec = Jvm.exec) {t : FieldType} {pc : Nat} {Ls : Array Slot} {z : Int32} {rest : List Value} (hret : meth.sig.returnType = some t) (ht : t = .boolean ∨ t = .byte ∨ t = .char ∨ t = .short) (hlk : meth.locks = false) (hd : decode c.code pc = .ok (.ireturn, 1)) {Q : Option Value → Heap → List Loc → Prop} {C K : Nat}
    (hG : ∀ s₂ o, (∃ v L, o = .returned v ∧ Q v s₂.heap L ∧ FrameEnd s o s₂ L C K) → G s₂ o) (hC : cells ≤ C) (hK : slots ≤ K) (hQ : Q (some (.int (nar t z))) T.heap locs) : Ends p.tables e below G (T.setTop (mkF m pc Ls (.int z :: rest))) := by
  obtain ⟨fs, hr, hrun, hended, hW, hsame⟩ := X.leave (v := some (.int (nar t z))) (fun h => by rw [hret] at h; cases h)
  exact ⟨_, _, retN X hx (t := t) hret ht hd hr, hrun, hended, hG _ _ ⟨_, _, rfl, hQ, ⟨_, rfl⟩, hW, hsame.mono hC hK⟩⟩
theorem own_finN (X : Stand p l e R s m args below meth c T locs cells slots) (hx : p.tables.exec = Jvm.exec) {pc : Nat} {Ls : Array Slot} (hret : meth.sig.returnType = none) (hlk : meth.locks = false) (hd : decode c.code pc = .ok (.return_, 1)) {Q : Option Value → Heap → List Loc → Prop} {C K : Nat}
    (hG : ∀ s₂ o, (∃ v L, o = .returned v ∧ Q v s₂.heap L ∧ FrameEnd s o s₂ L C K) → G s₂ o) (hC : cells ≤ C) (hK : slots ≤ K) (hQ : Q none T.heap locs) : Ends p.tables e below G (T.setTop (mkF m pc Ls [])) := by
  obtain ⟨fs, hr, hrun, hended, hW, hsame⟩ := X.leave (v := none) (fun _ => rfl)
  exact ⟨_, _, X.returnOut hx hret hd hr, hrun, hended, hG _ _ ⟨_, _, rfl, hQ, ⟨_, rfl⟩, hW, hsame.mono hC hK⟩⟩
end OwnFin
/-- an array by what each place holds -/
def AF (Z : State) (h : Heap) (a : Addr) (ty : FieldType) (n : Nat) (f : Nat → Value) : Prop := ∃ c : Cell, Arr Z h a c ty ∧ c.slots.size = n ∧ ∀ j, j < n → c.slots[j]? = some (f j)
section OwnAF
variable {Z : State} {h h' : Heap} {a b : Addr} {ty : FieldType} {n sl : Nat} {f g : Nat → Value} {v : Value} {ws : List Addr}
theorem AF.lt (F : AF Z h a ty n f) : a < h.size := by obtain ⟨c, A, -⟩ := F; exact A.lt
theorem AF.ext (F : AF Z h a ty n f) (E : Ext h h') : AF Z h' a ty n f := by obtain ⟨c, A, r⟩ := F; exact ⟨c, A.ext E, r⟩
theorem AF.other (F : AF Z h b ty n f) (W : Wr h h' a sl v) (q : b ≠ a) : AF Z h' b ty n f := by obtain ⟨c, A, r⟩ := F; exact ⟨c, A.other W q, r⟩
theorem AF.keep (F : AF Z h a ty n f) (K : Keep h h' ws) (q : a ∉ ws) : AF Z h' a ty n f := by obtain ⟨c, A, r⟩ := F; exact ⟨c, ⟨K.2.1 a c A.1 q, A.2⟩, r⟩
theorem AF.congr (F : AF Z h a ty n f) (q : ∀ j, j < n → f j = g j) : AF Z h a ty n g := by obtain ⟨c, A, r, u⟩ := F; exact ⟨c, A, r, fun j hj => by rw [u j hj, q j hj]⟩
theorem AF.new {k : ClassId} {z : Int32} (A : Arr Z h a (newA k ty z) ty) (q : z.toNatClampNeg = n) : AF Z h a ty n (fun _ => defaultValue ty) := ⟨_, A, by rw [sz_new]; exact q, fun i hi => by
  rw [← q] at hi; simp [newA, hi]⟩
theorem AF.set (F : AF Z h a ty n f) (W : Wr h h' a sl v) (hs : sl < n) : AF Z h' a ty n (fun k => if k = sl then v else f k) := by
  obtain ⟨c, A, r, u⟩ := F
  refine ⟨_, A.same W, by rw [sz_set]; exact r, fun j hj => ?_⟩
  by_cases q : j = sl
  · subst q; simp [Cell.setSlot, r, hj]
  · have := u j hj
    simp only [Cell.setSlot, if_neg q]
    rw [Array.getElem?_setIfInBounds_ne (fun z => q z.symm)]; exact this
variable {p : Program} {l : Launch} {e : Env} {R : Room} {s : State} {m : MethodId} {args : Array Value} {below : List Frame} {meth : Method} {c : Code} {T : State} {locs : List Loc} {cells slots : Nat}
theorem AF.ldB (F : AF Z h a .byte n f) (X : Stand p l e R s m args below meth c T locs cells slots) (hx : p.tables.exec = Jvm.exec) (hZ : Z.Warmed39 s.vm) (eT : T.heap = h) {j : Int32} {i : Nat} (hj : j.toInt = (i : Int)) (hi : i < n) {v : Value} (hv : f i = v) {g : JFrame} (hg : g.method = m) {rest : List Value} (hs : g.stack = .int j :: .ref a :: rest) (hd : decode c.code g.pc = .ok (.baload, 1)) (target : State)
    (k : Steps p.tables e below (T.setTop { g with pc := g.pc + 1, stack := v :: rest }) target) : Steps p.tables e below (T.setTop g) target := by
  obtain ⟨cl, A, r, u⟩ := F
  exact X.baloadBytes hx (by rw [eT]; exact A.1) (State.isArrayOf_alike hZ.alike A.2.1) A.2.2 (own_inb hj hi r) (by rw [own_tn hj, u i hi, hv]) hg hs hd _ k
theorem AF.ldC (F : AF Z h a .char n f) (X : Stand p l e R s m args below meth c T locs cells slots) (hx : p.tables.exec = Jvm.exec) (hZ : Z.Warmed39 s.vm) (eT : T.heap = h) {j : Int32} {i : Nat} (hj : j.toInt = (i : Int)) (hi : i < n) {v : Value} (hv : f i = v) {g : JFrame} (hg : g.method = m) {rest : List Value} (hs : g.stack = .int j :: .ref a :: rest) (hd : decode c.code g.pc = .ok (.caload, 1)) (target : State)
    (k : Steps p.tables e below (T.setTop { g with pc := g.pc + 1, stack := v :: rest }) target) : Steps p.tables e below (T.setTop g) target := by
  obtain ⟨cl, A, r, u⟩ := F
  exact X.caload hx (by rw [eT]; exact A.1) (State.isArrayOf_alike hZ.alike A.2.1) A.2.2 (own_inb hj hi r) (by rw [own_tn hj, u i hi, hv]) hg hs hd _ k
theorem AF.ldJ (F : AF Z h a .long n f) (X : Stand p l e R s m args below meth c T locs cells slots) (hx : p.tables.exec = Jvm.exec) (hZ : Z.Warmed39 s.vm) (eT : T.heap = h) {j : Int32} {i : Nat} (hj : j.toInt = (i : Int)) (hi : i < n) {v : Value} (hv : f i = v) {g : JFrame} (hg : g.method = m) {rest : List Value} (hs : g.stack = .int j :: .ref a :: rest) (hd : decode c.code g.pc = .ok (.laload, 1)) (target : State)
    (k : Steps p.tables e below (T.setTop { g with pc := g.pc + 1, stack := v :: rest }) target) : Steps p.tables e below (T.setTop g) target := by
  obtain ⟨cl, A, r, u⟩ := F
  exact X.laload hx (by rw [eT]; exact A.1) (State.isArrayOf_alike hZ.alike A.2.1) A.2.2 (own_inb hj hi r) (by rw [own_tn hj, u i hi, hv]) hg hs hd _ k
theorem AF.len (F : AF Z h a ty n f) (X : Stand p l e R s m args below meth c T locs cells slots) (hx : p.tables.exec = Jvm.exec) (hZ : Z.Warmed39 s.vm) (eT : T.heap = h) {z : Int32} (hz : n.toInt32 = z) {g : JFrame} (hg : g.method = m) {rest : List Value} (hs : g.stack = .ref a :: rest) (hd : decode c.code g.pc = .ok (.arraylength, 1)) (target : State)
    (k : Steps p.tables e below (T.setTop { g with pc := g.pc + 1, stack := .int z :: rest }) target) : Steps p.tables e below (T.setTop g) target := by
  obtain ⟨cl, A, r, u⟩ := F
  subst hz r
  exact X.arraylength hx (by rw [eT]; exact A.1) (State.isArrayOf_alike hZ.alike A.2.1) hg hs hd _ k
theorem AF.stB (F : AF Z h a .byte n f) (X : Stand p l e R s m args below meth c T locs cells slots) (hx : p.tables.exec = Jvm.exec) (hZ : Z.Warmed39 s.vm) (eT : T.heap = h) {j x : Int32} {i : Nat} (hj : j.toInt = (i : Int)) (hi : i < n) {g : JFrame} (hg : g.method = m) {rest : List Value} (hs : g.stack = .int x :: .int j :: .ref a :: rest) (hd : decode c.code g.pc = .ok (.bastore, 1)) :
    ∃ T' h', Stand p l e R s m args below meth c T' (locs ++ [⟨a, i⟩]) cells slots ∧ T'.heap = h' ∧ Wr h h' a i (.int (nar .byte x)) ∧ AF Z h' a .byte n (fun k => if k = i then .int (nar .byte x) else f k) ∧ ∀ target, Steps p.tables e below (T'.setTop { g with pc := g.pc + 1, stack := rest }) target → Steps p.tables e below (T.setTop g) target := by
  have F' := F
  obtain ⟨cl, A, r, u⟩ := F
  obtain ⟨T', h', X', e', W', st⟩ := RoadKit.stB X hx hZ eT A (own_inb hj hi r) hg hs hd
  rw [own_tn hj] at X' W'
  exact ⟨T', h', X', e', W', F'.set W' hi, st⟩
theorem AF.stC (F : AF Z h a .char n f) (X : Stand p l e R s m args below meth c T locs cells slots) (hx : p.tables.exec = Jvm.exec) (hZ : Z.Warmed39 s.vm) (eT : T.heap = h) {j x : Int32} {i : Nat} (hj : j.toInt = (i : Int)) (hi : i < n) {g : JFrame} (hg : g.method = m) {rest : List Value} (hs : g.stack = .int x :: .int j :: .ref a :: rest) (hd : decode c.code g.pc = .ok (.castore, 1)) :
    ∃ T' h', Stand p l e R s m args below meth c T' (locs ++ [⟨a, i⟩]) cells slots ∧ T'.heap = h' ∧ Wr h h' a i (.int (nar .char x)) ∧ AF Z h' a .char n (fun k => if k = i then .int (nar .char x) else f k) ∧ ∀ target, Steps p.tables e below (T'.setTop { g with pc := g.pc + 1, stack := rest }) target → Steps p.tables e below (T.setTop g) target := by
  have F' := F
  obtain ⟨cl, A, r, u⟩ := F
  obtain ⟨T', h', X', e', W', st⟩ := RoadKit.stC X hx hZ eT A (own_inb hj hi r) hg hs hd
  rw [own_tn hj] at X' W'
  exact ⟨T', h', X', e', W', F'.set W' hi, st⟩
theorem AF.stJ (F : AF Z h a .long n f) (X : Stand p l e R s m args below meth c T locs cells slots) (hx : p.tables.exec = Jvm.exec) (hZ : Z.Warmed39 s.vm) (eT : T.heap = h) {j : Int32} {x : Int64} {i : Nat} (hj : j.toInt = (i : Int)) (hi : i < n) {g : JFrame} (hg : g.method = m) {rest : List Value} (hs : g.stack = .long x :: .int j :: .ref a :: rest) (hd : decode c.code g.pc = .ok (.lastore, 1)) :
    ∃ T' h', Stand p l e R s m args below meth c T' (locs ++ [⟨a, i⟩]) cells slots ∧ T'.heap = h' ∧ Wr h h' a i (.long x) ∧ AF Z h' a .long n (fun k => if k = i then .long x else f k) ∧ ∀ target, Steps p.tables e below (T'.setTop { g with pc := g.pc + 1, stack := rest }) target → Steps p.tables e below (T.setTop g) target := by
  have F' := F
  obtain ⟨cl, A, r, u⟩ := F
  obtain ⟨T', h', X', e', W', st⟩ := RoadKit.stJ X hx hZ eT A (own_inb hj hi r) hg hs hd
  rw [own_tn hj] at X' W'
  exact ⟨T', h', X', e', W', F'.set W' hi, st⟩
theorem AF.ldD (F : AF Z h a .double n f) (X : Stand p l e R s m args below meth c T locs cells slots) (hx : p.tables.exec = Jvm.exec) (hZ : Z.Warmed39 s.vm) (eT : T.heap = h) {j : Int32} {i : Nat} (hj : j.toInt = (i : Int)) (hi : i < n) {v : Value} (hv : f i = v) {g : JFrame} (hg : g.method = m) {rest : List Value} (hs : g.stack = .int j :: .ref a :: rest) (hd : decode c.code g.pc = .ok (.daload, 1)) (target : State)
    (k : Steps p.tables e below (T.setTop { g with pc := g.pc + 1, stack := v :: rest }) target) : Steps p.tables e below (T.setTop g) target := by
  obtain ⟨cl, A, r, u⟩ := F
  exact X.daload hx (by rw [eT]; exact A.1) (State.isArrayOf_alike hZ.alike A.2.1) A.2.2 (own_inb hj hi r) (by rw [own_tn hj, u i hi, hv]) hg hs hd _ k
theorem AF.stD (F : AF Z h a .double n f) (X : Stand p l e R s m args below meth c T locs cells slots) (hx : p.tables.exec = Jvm.exec) (hZ : Z.Warmed39 s.vm) (eT : T.heap = h) {j : Int32} {x : UInt64} {i : Nat} (hj : j.toInt = (i : Int)) (hi : i < n) {g : JFrame} (hg : g.method = m) {rest : List Value} (hs : g.stack = .double x :: .int j :: .ref a :: rest) (hd : decode c.code g.pc = .ok (.dastore, 1)) :
    ∃ T' h', Stand p l e R s m args below meth c T' (locs ++ [⟨a, i⟩]) cells slots ∧ T'.heap = h' ∧ Wr h h' a i (.double x) ∧ AF Z h' a .double n (fun k => if k = i then .double x else f k) ∧ ∀ target, Steps p.tables e below (T'.setTop { g with pc := g.pc + 1, stack := rest }) target → Steps p.tables e below (T.setTop g) target := by
  have F' := F
  obtain ⟨cl, A, r, u⟩ := F
  obtain ⟨T', h', X', e', W', st⟩ := RoadKit.stD X hx hZ eT A (own_inb hj hi r) hg hs hd
  rw [own_tn hj] at X' W'
  exact ⟨T', h', X', e', W', F'.set W' hi, st⟩
end OwnAF
theorem own_lt {x y : Int32} {a b : Nat} (hx : x.toInt = (a : Int)) (hy : y.toInt = (b : Int)) : x < y ↔ a < b := by rw [Int32.lt_iff_toInt_lt, hx, hy]; omega
theorem own_eqn {x y : Int32} {a b : Nat} (hx : x.toInt = (a : Int)) (hy : y.toInt = (b : Int)) : x = y ↔ a = b := by rw [← Int32.toInt_inj, hx, hy]; omega
theorem own_add {x y : Int32} {a b : Nat} (hx : x.toInt = (a : Int)) (hy : y.toInt = (b : Int)) (h : a + b < 2147483648) : (x + y).toInt = ((a + b : Nat) : Int) := by
  have q1 := c_iadd x y
  have q2 := rng32 (x + y)
  omega
theorem own_iremM (x y : Int32) : x - (x / y) * y = x % y := by
  apply Int32.toInt_inj.mp
  have h1 := Int32.le_toInt (x % y)
  have h2 := Int32.toInt_lt (x % y)
  rw [Int32.toInt_sub, Int32.toInt_mul, Int32.toInt_div, Int.bmod_mul_bmod, Int.sub_bmod_bmod, Int.mul_comm (x.toInt.tdiv y.toInt), ← Int.tmod_def, ← Int32.toInt_mod]
  exact Int.bmod_eq_of_le_mul_two (by omega) (by omega)
theorem own_iremV {x y : Int32} {b : Nat} (hx : 0 ≤ x.toInt) (hy : y.toInt = (b : Int)) : (x - (x / y) * y).toInt = x.toInt % (b : Int) := by
  rw [own_iremM]; exact (c_irem x y b hy).1 hx
theorem own_irem {x y : Int32} {b : Nat} (hx : 0 ≤ x.toInt) (hy : y.toInt = (b : Int)) (hb : 0 < b) : ∃ r : Nat, r < b ∧ (x - (x / y) * y).toInt = (r : Int) := by
  have h := own_iremV hx hy
  have h1 := Int.emod_nonneg x.toInt (b := (b : Int)) (by omega)
  have h2 := Int.emod_lt_of_pos x.toInt (b := (b : Int)) (by omega)
  exact ⟨(x.toInt % (b : Int)).toNat, by omega, by omega⟩
theorem own_mask31 (x : Int32) : 0 ≤ (x &&& 2147483647).toInt := by
  have h := c_mask x 2147483647 31 (by decide) (by decide)
  rw [h]; exact Int.emod_nonneg _ (by decide)
theorem own_ne0 {y : Int32} {b : Nat} (hy : y.toInt = (b : Int)) (hb : 0 < b) : y ≠ 0 := fun h => by
  subst h
  have : (0 : Int32).toInt = 0 := rfl
  omega
section OwnFl
open Jvm.FP Jvm.FP.Core
def own_pl (k : Nat) : UInt64 := FP.ddiv (FP.i2d (Int32.ofNat k)) 4652218415073722368
theorem own_A1 : ∀ k : Fin 1025, k.val = 0 ∨ val64 (own_pl k.val) = .fin false (k.val * 2 ^ (52 - k.val.log2)) ((k.val.log2 : Int) - 62) := by decide +kernel
theorem own_A2 : ∀ t : Fin 61, t.val = 0 ∨ val64 (FP.i2d (Int32.ofNat t.val)) = .fin false (t.val * 2 ^ (52 - t.val.log2)) ((t.val.log2 : Int) - 52) := by decide +kernel
theorem own_A3 : ∀ t : Fin 61, val64 (FP.dmul (own_pl 0) (FP.i2d (Int32.ofNat t.val))) = .fin false 0 b64.qmin := by decide +kernel
theorem own_log {n m : Nat} (h : n < 2 ^ m) (hm : 0 < m) : n.log2 < m := by
  by_cases h0 : n = 0
  · subst h0; simpa using hm
  · exact (Nat.log2_lt h0).mpr h
/-- the target: k t / 1024, exactly -/
theorem own_tgt {k t : Nat} (hk : k < 1025) (ht : t < 61) (ht0 : t ≠ 0) : ∃ c q, val64 (FP.dmul (own_pl k) (FP.i2d (Int32.ofNat t))) = .fin false c q ∧ inUnits c q b64.qmin = k * t * 2 ^ 1064 := by
  by_cases hk0 : k = 0
  · subst hk0
    refine ⟨0, _, own_A3 ⟨t, ht⟩, ?_⟩
    simp [inUnits]
  have e1 := (own_A1 ⟨k, hk⟩).resolve_left hk0
  have e2 := (own_A2 ⟨t, ht⟩).resolve_left ht0
  simp only at e1 e2
  have l1 : k.log2 < 11 := own_log (by omega) (by decide)
  have l2 : t.log2 < 6 := own_log (by omega) (by decide)
  have e3 : val64 (FP.dmul (own_pl k) (FP.i2d (Int32.ofNat t))) = round b64 (.fin false (k * t) (-10)) := by
    show val64 (Core.dmul (own_pl k) (FP.i2d (Int32.ofNat t))) = _
    rw [val64_dmul, e1, e2]
    show roundRatio b64 false (k * 2 ^ (52 - k.log2) * (t * 2 ^ (52 - t.log2))) 1 _ = roundRatio b64 false (k * t) 1 (-10)
    refine roundRatio_congr (by decide) (by decide) ?_
    rw [show ((k.log2 : Int) - 62 + ((t.log2 : Int) - 52) - -10).toNat = 0 by omega, show (-10 - ((k.log2 : Int) - 62 + ((t.log2 : Int) - 52))).toNat = (52 - k.log2) + (52 - t.log2) by omega, Nat.pow_add]
    simp only [Nat.pow_zero, Nat.mul_one]
    rw [Nat.mul_mul_mul_comm]
  obtain ⟨c, q, h1, h2⟩ := round_exact good_b64 false (c := k * t) (q := -10) (Nat.lt_of_le_of_lt (Nat.mul_le_mul (show k ≤ 1024 by omega) (show t ≤ 60 by omega)) (by decide)) (by decide) (by decide)
  refine ⟨c, q, e3.trans h1, ?_⟩
  rw [h2]
  rfl
theorem own_zc {c : Nat} (hc : c < 61) : zval b64 (val64 (FP.i2d (Int32.ofNat c))) = ((c * 2 ^ 1074 : Nat) : Int) := by
  by_cases h0 : c = 0
  · subst h0; decide +kernel
  · rw [(own_A2 ⟨c, hc⟩).resolve_left h0]
    have l2 : c.log2 < 6 := own_log (by omega) (by decide)
    show signed false (inUnits (c * 2 ^ (52 - c.log2)) ((c.log2 : Int) - 52) b64.qmin) = _
    have : inUnits (c * 2 ^ (52 - c.log2)) ((c.log2 : Int) - 52) b64.qmin = c * 2 ^ 1074 := by
      unfold inUnits
      rw [show b64.qmin = -1074 from by decide, show ((c.log2 : Int) - 52 - -1074).toNat = 1022 + c.log2 by omega, Nat.mul_assoc, ← Nat.pow_add, show 52 - c.log2 + (1022 + c.log2) = 1074 by omega]
    rw [this]; rfl
theorem own_nn {c : Nat} (hc : c < 61) : val64 (FP.i2d (Int32.ofNat c)) ≠ .nan := by
  by_cases h0 : c = 0
  · subst h0; decide +kernel
  · rw [(own_A2 ⟨c, hc⟩).resolve_left h0]; exact nofun
/-- the comparison: 1 where the running total passes the target, else not above 0 -/
theorem own_cmp {k t c : Nat} (hk : k < 1025) (ht : t < 61) (ht0 : t ≠ 0) (hc : c < 61) : 0 < Op.cmpValue (FP.dcmp (FP.i2d (Int32.ofNat c)) (FP.dmul (own_pl k) (FP.i2d (Int32.ofNat t)))) .l ↔ k * t < 1024 * c := by
  obtain ⟨d, q, e1, e2⟩ := own_tgt hk ht ht0
  have n2 : val64 (FP.dmul (own_pl k) (FP.i2d (Int32.ofNat t))) ≠ .nan := by rw [e1]; exact nofun
  have h := dcmp_zval (own_nn hc) n2
  have z2 : zval b64 (val64 (FP.dmul (own_pl k) (FP.i2d (Int32.ofNat t)))) = ((k * t * 2 ^ 1064 : Nat) : Int) := by
    rw [e1]; show signed false (inUnits d q b64.qmin) = _; rw [e2]; rfl
  rw [own_zc hc, z2] at h
  rw [show FP.dcmp (FP.i2d (Int32.ofNat c)) (FP.dmul (own_pl k) (FP.i2d (Int32.ofNat t))) = some (compare ((c * 2 ^ 1074 : Nat) : Int) ((k * t * 2 ^ 1064 : Nat) : Int)) from h]
  have p : (2 : Nat) ^ 1074 = 1024 * 2 ^ 1064 := by rw [show (1024 : Nat) = 2 ^ 10 from rfl, ← Nat.pow_add]
  rw [p]
  have hp : 0 < (2 : Nat) ^ 1064 := Nat.two_pow_pos _
  generalize (2 : Nat) ^ 1064 = P at hp
  have q3 : c * (1024 * P) = 1024 * c * P := by rw [← Nat.mul_assoc, Nat.mul_comm c 1024]
  rw [q3]
  rcases Nat.lt_trichotomy (k * t) (1024 * c) with g | g | g
  · have g2 : k * t * P < 1024 * c * P := Nat.mul_lt_mul_of_pos_right g hp
    rw [(compare_gt_iff _ _).mpr (Int.ofNat_lt.mpr g2)]
    exact ⟨fun _ => g, fun _ => by decide⟩
  · rw [g, (compare_eq_iff _ _).mpr rfl]
    exact ⟨fun z => absurd z (by decide), fun z => absurd z (Nat.lt_irrefl _)⟩
  · have g2 : 1024 * c * P < k * t * P := Nat.mul_lt_mul_of_pos_right g hp
    rw [(compare_lt_iff _ _).mpr (Int.ofNat_lt.mpr g2)]
    exact ⟨fun z => absurd z (by decide), fun z => absurd z (by omega)⟩
end OwnFl
theorem own_neA {Z : State} {h : Heap} {a b : Addr} {C : String} {a0 : Array Value} {k n : Nat} {ty : FieldType} {f : Nat → Value} (F : Exa Z h a C) (wi : (Jvm.Cond.instantiable C k).before a0 Z = true) (G : AF Z h b ty n f) : b ≠ a := by
  obtain ⟨c, A, -⟩ := G
  exact Ne.symm (ne_arr F wi A)
/-- a whole number as a double -/
def own_d (n : Nat) : UInt64 := FP.i2d (Int32.ofNat n)
theorem own_d0 : own_d 0 = 0 := by decide +kernel
theorem own_i64 {n : Nat} (h : n < 1000) : (Int32.ofNat n).toInt64.toInt = (n : Int) := by
  rw [c_i2l, Int32.toInt_ofNat_of_lt (by omega)]
theorem own_dadd {a b : Nat} (ha : a < 100) (hb : b < 100) : FP.dadd (own_d a) (own_d b) = own_d (a + b) := by
  have ea := own_i64 (n := a) (by omega)
  have eb := own_i64 (n := b) (by omega)
  have ec := own_i64 (n := a + b) (by omega)
  show FP.dadd (FP.i2d _) (FP.i2d _) = FP.i2d _
  rw [i2d_w, i2d_w, i2d_w, dadd_w ⟨by omega, by omega⟩ ⟨by omega, by omega⟩]
  congr 1
  apply Int64.toInt_inj.mp
  rw [add64 ⟨by omega, by omega⟩ ⟨by omega, by omega⟩]
  omega
theorem own_dnn {n : Nat} (h : n < 1000) : Jvm.Free.Fl.NoNaN64 (own_d n) := nn_w (i2d_w _)
theorem own_plnn {k : Nat} (hk : k < 1025) : Jvm.Free.Fl.NoNaN64 (own_pl k) := by
  refine Jvm.Free.Fl.noNaN64_no.mpr ((FP.Core.notNaN_iff _).mpr ?_)
  by_cases h0 : k = 0
  · subst h0; decide +kernel
  · rw [(own_A1 ⟨k, hk⟩).resolve_left h0]; exact nofun
theorem own_tnn {k t : Nat} (hk : k < 1025) (ht : t < 61) (ht0 : t ≠ 0) : Jvm.Free.Fl.NoNaN64 (FP.dmul (own_pl k) (own_d t)) := by
  refine Jvm.Free.Fl.noNaN64_no.mpr ((FP.Core.notNaN_iff _).mpr ?_)
  obtain ⟨c, q, h, -⟩ := own_tgt hk ht ht0
  rw [show FP.Core.val64 (FP.dmul (own_pl k) (own_d t)) = _ from h]; exact nofun
/-- the sum of the first i weights -/
def own_sm (A : Nat → Nat) : Nat → Nat
  | 0 => 0
  | i + 1 => own_sm A i + A i
theorem own_sm_le {A : Nat → Nat} (hA : ∀ j, A j ≤ 15) : ∀ i, own_sm A i ≤ 15 * i
  | 0 => Nat.le_refl _
  | i + 1 => by have a := own_sm_le hA i; have b := hA i; show own_sm A i + A i ≤ _; omega
theorem own_sm_mono (A : Nat → Nat) (i : Nat) : ∀ d, own_sm A i ≤ own_sm A (i + d)
  | 0 => Nat.le_refl _
  | d + 1 => Nat.le_trans (own_sm_mono A i d) (Nat.le_add_right _ _)
theorem own_sm_mon (A : Nat → Nat) {i j : Nat} (h : i ≤ j) : own_sm A i ≤ own_sm A j := by
  have := own_sm_mono A i (j - i)
  rwa [show i + (j - i) = j by omega] at this
theorem d1_0 : decode prog_57_method_1_code 0 = .ok (.aload_n 0, 1) := by decide +kernel
theorem d1_1 : decode prog_57_method_1_code 1 = .ok (.invokespecial 1, 3) := by decide +kernel
theorem pd_0 : parseMethodDescriptor "()V" = some ⟨[], none⟩ := by decide +kernel
theorem d1_4 : decode prog_57_method_1_code 4 = .ok (.aload_n 0, 1) := by decide +kernel
theorem d1_5 : decode prog_57_method_1_code 5 = .ok (.aload_n 1, 1) := by decide +kernel
theorem d1_6 : decode prog_57_method_1_code 6 = .ok (.arraylength, 1) := by decide +kernel
theorem d1_7 : decode prog_57_method_1_code 7 = .ok (.newarray .double, 2) := by decide +kernel
theorem d1_9 : decode prog_57_method_1_code 9 = .ok (.putfield 7, 3) := by decide +kernel
theorem d1_12 : decode prog_57_method_1_code 12 = .ok (.dconst 0, 1) := by decide +kernel
theorem d1_13 : decode prog_57_method_1_code 13 = .ok (.dstore_n 2, 1) := by decide +kernel
theorem d1_14 : decode prog_57_method_1_code 14 = .ok (.iconst 0, 1) := by decide +kernel
theorem d1_15 : decode prog_57_method_1_code 15 = .ok (.istore 4, 2) := by decide +kernel
theorem d1_17 : decode prog_57_method_1_code 17 = .ok (.iload 4, 2) := by decide +kernel
theorem d1_19 : decode prog_57_method_1_code 19 = .ok (.aload_n 1, 1) := by decide +kernel
theorem d1_20 : decode prog_57_method_1_code 20 = .ok (.arraylength, 1) := by decide +kernel
theorem d1_21 : decode prog_57_method_1_code 21 = .ok (.if_icmp .ge 24, 3) := by decide +kernel
theorem d1_24 : decode prog_57_method_1_code 24 = .ok (.dload_n 2, 1) := by decide +kernel
theorem d1_25 : decode prog_57_method_1_code 25 = .ok (.aload_n 1, 1) := by decide +kernel
theorem d1_26 : decode prog_57_method_1_code 26 = .ok (.iload 4, 2) := by decide +kernel
theorem d1_28 : decode prog_57_method_1_code 28 = .ok (.daload, 1) := by decide +kernel
theorem d1_29 : decode prog_57_method_1_code 29 = .ok (.dadd, 1) := by decide +kernel
theorem d1_30 : decode prog_57_method_1_code 30 = .ok (.dstore_n 2, 1) := by decide +kernel
theorem d1_31 : decode prog_57_method_1_code 31 = .ok (.aload_n 0, 1) := by decide +kernel
theorem d1_32 : decode prog_57_method_1_code 32 = .ok (.getfield 7, 3) := by decide +kernel
theorem d1_35 : decode prog_57_method_1_code 35 = .ok (.iload 4, 2) := by decide +kernel
theorem d1_37 : decode prog_57_method_1_code 37 = .ok (.dload_n 2, 1) := by decide +kernel
theorem d1_38 : decode prog_57_method_1_code 38 = .ok (.dastore, 1) := by decide +kernel
theorem d1_39 : decode prog_57_method_1_code 39 = .ok (.iinc 4 1, 3) := by decide +kernel
theorem d1_42 : decode prog_57_method_1_code 42 = .ok (.goto (-25), 3) := by decide +kernel
theorem d1_45 : decode prog_57_method_1_code 45 = .ok (.return_, 1) := by decide +kernel
theorem pn_1 : plainName "com/example/bitstrata/bitstrata/bench/Weights" = true := by first | (simp [plainName, overriddenIn]; done) | decide +kernel
theorem ef_1 (m : MethodId) (x0 : Addr) (x1 : Addr) : entryFrame m #[(.ref x0), (.ref x1)] 5 = mkF m 0 #[rv x0, rv x1, un, un, un] [] := by first | (simp [entryFrame, mkF, argsToLocals, Value.category]; done) | rfl
def Q1 (Z : State) (r : Addr) (b : Addr) (n : Nat) (A : Nat → Nat) (D : Nat → UInt64) (h0 : Heap) (n0 : Nat) (v : Option Value) (h : Heap) (L : List Loc) : Prop := v = none ∧ Fr n0 L ∧ n0 ≤ h.size ∧ Exa Z h r "com/example/bitstrata/bitstrata/bench/Weights" ∧ ∃ cu : Addr, Fld Z h r "com/example/bitstrata/bitstrata/bench/Weights" "cumulative" "[D" (.ref cu) ∧ AF Z h cu .double n (fun j => .double (D (own_sm A (j + 1))))
set_option maxRecDepth 65536 in
set_option maxHeartbeats 40000000 in
theorem rm1 (l : Launch) (Z : State) (a0 : Array Value) (hw : ∀ d ∈ tables_1, d.before a0 Z = true) (ws : List Jvm.Cond) (r : Addr) (b : Addr) (n : Nat) (A : Nat → Nat) (D : Nat → UInt64) (h0 : Heap) (n0 : Nat) (Z0 : n0 ≤ h0.size) (E_r : Exa Z h0 r "com/example/bitstrata/bitstrata/bench/Weights") (F_c : Fld Z h0 r "com/example/bitstrata/bitstrata/bench/Weights" "cumulative" "[D" .null) (V_b : AF Z h0 b .double n (fun j => .double (D (A j)))) (g_r : n0 ≤ r) (hn4 : n ≤ 4) (hA : ∀ j, A j ≤ 15) (hD0 : D 0 = 0) (hDa : ∀ a b, a < 100 → b < 100 → FP.dadd (D a) (D b) = D (a + b)) (hDn : ∀ n, n < 1000 → Jvm.Free.Fl.NoNaN64 (D n)) :
    MetFree l (⟨"com/example/bitstrata/bitstrata/bench/Weights", "<init>", "([D)V"⟩ : MethodName) (head1 (Jvm.Cond.code (⟨"com/example/bitstrata/bitstrata/bench/Weights", "<init>", "([D)V"⟩ : MethodName) prog_57_method_1_code 5 none :: ws) ({ frames := 1, cells := 1, slots := 4, locals := 12 } : Room)) (fun a U => a = #[(.ref r), (.ref b)] ∧ Z.Warmed39 U.vm ∧ U.heap = h0) (fun _ _ _ _ _ => True) (fun _ U o U' => ∃ v L, o = .returned v ∧ Q1 Z r b n A D h0 n0 v U'.heap L ∧ FrameEnd U o U' L ({ frames := 1, cells := 1, slots := 4, locals := 12 } : Room).cells ({ frames := 1, cells := 1, slots := 4, locals := 12 } : Room).slots) := by
  refine MetFree.of_bodySF (plainFor_of_name pn_1) hisR ?_
  intro p e s m args below meth c s₁ Bd hml0 hP hK
  obtain ⟨rfl, hZ, hh⟩ := hP
  have hx := Bd.exec
  have hby := Bd.bytes
  have hml : c.maxLocals = 5 := hml0
  have hown : s.vm.findClass "com/example/bitstrata/bitstrata/bench/Weights" = some m.cls := findClass_of_methodNamed Bd.named
  have hnm := (name_of_methodNamed Bd.named Bd.method).1
  have X0 : Stand p l e ({ frames := 1, cells := 1, slots := 4, locals := 12 } : Room) s m #[(.ref r), (.ref b)] below meth c s₁ [] 0 0 := Stand.of_body Bd
  have e0 : s₁.heap = h0 := by rw [← hh, Bd.state]; rfl
  have N0 := Fr.nil n0
  show Ends p.tables e below (fun (s₂ : State) (o : Outcome) => ∃ v L, o = .returned v ∧ (Q1 Z r b n A D h0 n0) v s₂.heap L ∧ FrameEnd s o s₂ L ({ frames := 1, cells := 1, slots := 4, locals := 12 } : Room).cells ({ frames := 1, cells := 1, slots := 4, locals := 12 } : Room).slots) (s₁.setTop (entryFrame m #[(.ref r), (.ref b)] 5))
  refine Ends.any fun G hG => ?_
  refine Ends.go (fun t k => castTop (ef_1 m r b) k) ?_
  show Ends p.tables e below G (s₁.setTop (mkF m 0 #[rv r, rv b, un, un, un] []))
  have ne_b : b ≠ r := own_neA E_r (hw _ (List.mem_of_getElem? (i := 4) rfl)) V_b
  have hnl : (Int32.ofNat n).toInt = (n : Int) := Int32.toInt_ofNat_of_lt (by omega)
  refine Ends.go (fun _ => XS.aloadN X0.here hx rfl (hb hby d1_0) rfl rfl) ?_
  show Ends p.tables e below G (s₁.setTop (mkF m 1 #[rv r, rv b, un, un, un] [(.ref r)]))
  obtain ⟨T1, X1, e1, st1⟩ := initO X0 hx hZ hown (hw _ (List.mem_of_getElem? (i := 9) rfl)) (hw _ (List.mem_of_getElem? (i := 10) rfl)) (hw _ (List.mem_of_getElem? (i := 11) rfl)) e0 (g := (mkF m 1 #[rv r, rv b, un, un, un] [(.ref r)])) rfl (by rw [hml]; rfl) rfl (hb hby d1_1) (by decide) (W := 0) (by show 2 * 0 + _ ≤ _; exact Nat.le_of_eq rfl) (by decide)
  refine Ends.go (fun _ => st1 _) ?_
  show Ends p.tables e below G (T1.setTop (mkF m 4 #[rv r, rv b, un, un, un] []))
  refine Ends.go (fun _ => XS.aloadN X1.here hx rfl (hb hby d1_4) rfl rfl) ?_
  show Ends p.tables e below G (T1.setTop (mkF m 5 #[rv r, rv b, un, un, un] [(.ref r)]))
  refine Ends.go (fun _ => XS.aloadN X1.here hx rfl (hb hby d1_5) rfl rfl) ?_
  show Ends p.tables e below G (T1.setTop (mkF m 6 #[rv r, rv b, un, un, un] [(.ref b), (.ref r)]))
  refine Ends.go (fun _ => AF.len V_b X1 hx hZ e1 (z := (Int32.ofNat n)) rfl (g := (mkF m 6 #[rv r, rv b, un, un, un] [(.ref b), (.ref r)])) rfl rfl (hb hby d1_6) _) ?_
  show Ends p.tables e below G (T1.setTop (mkF m 7 #[rv r, rv b, un, un, un] [(.int (Int32.ofNat n)), (.ref r)]))
  obtain ⟨T2, h2, k2, X2, e2, E2, A2, st2⟩ := newP X1 hx hZ (hw _ (List.mem_of_getElem? (i := 0) rfl)) e1 (g := (mkF m 7 #[rv r, rv b, un, un, un] [(.int (Int32.ofNat n)), (.ref r)])) rfl (hb hby d1_7) rfl (by rw [Int32.lt_iff_toInt_lt, hnl]; have o0 : (0 : Int32).toInt = 0 := rfl; omega) (cap := 4) (by rw [own_tn hnl]; omega) (by decide) (by decide) (by decide)
  obtain ⟨b2, g2⟩ : ∃ z, z = h0.size := ⟨_, rfl⟩
  rw [← g2] at A2 st2
  have g_b2 : n0 ≤ b2 := Nat.le_trans Z0 (Nat.le_of_eq g2.symm)
  have ne_r_b2 : r ≠ b2 := Nat.ne_of_lt (Nat.lt_of_lt_of_le E_r.lt (Nat.le_of_eq g2.symm))
  have ne_b_b2 : b ≠ b2 := Nat.ne_of_lt (Nat.lt_of_lt_of_le (AF.lt V_b) (Nat.le_of_eq g2.symm))
  have f2_E_r := E_r.ext E2
  have f2_F_r_cumulative := F_c.ext E2
  have f2_V_b := AF.ext V_b E2
  have sz2 := Nat.le_trans Z0 E2.1
  have V2 : AF Z h2 b2 .double n (fun _ => (.double 0)) := AF.new A2 (own_tn hnl)
  refine Ends.go (fun _ => st2 _) ?_
  show Ends p.tables e below G (T2.setTop (mkF m 9 #[rv r, rv b, un, un, un] [(.ref b2), (.ref r)]))
  obtain ⟨T3, h3, X3, e3, W3, st3⟩ := putF X2 hx hZ hown (host := "") (Or.inl (hw _ (List.mem_of_getElem? (i := 12) rfl))) Via.refl e2 f2_F_r_cumulative f2_E_r (Or.inr ⟨(hw _ (List.mem_of_getElem? (i := 13) rfl)), rfl, hnm⟩) (hw _ (List.mem_of_getElem? (i := 4) rfl)) (ty := (.array .double)) (by decide) rfl rfl (g := (mkF m 9 #[rv r, rv b, un, un, un] [(.ref b2), (.ref r)])) rfl rfl (hb hby d1_9)
  have f3_E_r := f2_E_r.wr W3
  have f3_F_r_cumulative := f2_F_r_cumulative.same W3
  have f3_V_b := AF.other f2_V_b W3 ne_b
  have f3_V_b2 := AF.other V2 W3 (Ne.symm ne_r_b2)
  have sz3 := Nat.le_trans sz2 (Nat.le_of_eq W3.size.symm)
  have N3 := Fr.snoc X3 N0 g_r
  refine Ends.go (fun _ => st3 _) ?_
  show Ends p.tables e below G (T3.setTop (mkF m 12 #[rv r, rv b, un, un, un] []))
  refine Ends.go (fun _ => XS.dconst0 X3.here hx rfl (hb hby d1_12) (hD0.symm)) ?_
  show Ends p.tables e below G (T3.setTop (mkF m 13 #[rv r, rv b, un, un, un] [(.double (D 0))]))
  refine Ends.go (fun _ => XS.dstoreN (g := (mkF m 13 #[rv r, rv b, un, un, un] [(.double (D 0))])) X3.here hx rfl (hb hby d1_13) rfl (l' := #[rv r, rv b, .val (.double (D 0)), .second, un]) rfl) ?_
  show Ends p.tables e below G (T3.setTop (mkF m 14 #[rv r, rv b, .val (.double (D 0)), .second, un] []))
  refine Ends.go (fun _ => XS.iconst X3.here hx rfl (hb hby d1_14)) ?_
  show Ends p.tables e below G (T3.setTop (mkF m 15 #[rv r, rv b, .val (.double (D 0)), .second, un] [(.int (0 : Int32))]))
  refine Ends.go (fun _ => XS.istore (g := (mkF m 15 #[rv r, rv b, .val (.double (D 0)), .second, un] [(.int (0 : Int32))])) X3.here hx rfl (hb hby d1_15) rfl (l' := #[rv r, rv b, .val (.double (D 0)), .second, iv (0 : Int32)]) rfl) ?_
  show Ends p.tables e below G (T3.setTop (mkF m 17 #[rv r, rv b, .val (.double (D 0)), .second, iv (0 : Int32)] []))
  have loop : ∀ (k i : Nat) (ic : Int32) (T9 : State) (L9 : List Loc) (h9 : Heap), Stand p l e ({ frames := 1, cells := 1, slots := 4, locals := 12 } : Room) s m #[(.ref r), (.ref b)] below meth c T9 L9 (0 + 1) (0 + 4) → T9.heap = h9 → Fr n0 L9 → n0 ≤ h9.size → Exa Z h9 r "com/example/bitstrata/bitstrata/bench/Weights" → Fld Z h9 r "com/example/bitstrata/bitstrata/bench/Weights" "cumulative" "[D" (.ref b2) → AF Z h9 b .double n (fun j => .double (D (A j))) → AF Z h9 b2 .double n (fun j => .double (if j < i then D (own_sm A (j + 1)) else 0)) → ic.toInt = (i : Int) → i + k = n → Ends p.tables e below G (T9.setTop (mkF m 17 #[rv r, rv b, .val (.double (D (own_sm A i))), .second, iv ic] [])) := by
    intro k
    induction k with
    | zero =>
      intro i ic T9 L9 h9 X9 e9 N9 sz9 E9 F9 V9 U9 hi hk
      refine Ends.go (fun _ => XS.iload X9.here hx rfl (hb hby d1_17) rfl) ?_
      show Ends p.tables e below G (T9.setTop (mkF m 19 #[rv r, rv b, .val (.double (D (own_sm A i))), .second, iv ic] [(.int ic)]))
      refine Ends.go (fun _ => XS.aloadN X9.here hx rfl (hb hby d1_19) rfl rfl) ?_
      show Ends p.tables e below G (T9.setTop (mkF m 20 #[rv r, rv b, .val (.double (D (own_sm A i))), .second, iv ic] [(.ref b), (.int ic)]))
      refine Ends.go (fun _ => AF.len V9 X9 hx hZ e9 (z := (Int32.ofNat n)) rfl (g := (mkF m 20 #[rv r, rv b, .val (.double (D (own_sm A i))), .second, iv ic] [(.ref b), (.int ic)])) rfl rfl (hb hby d1_20) _) ?_
      show Ends p.tables e below G (T9.setTop (mkF m 21 #[rv r, rv b, .val (.double (D (own_sm A i))), .second, iv ic] [(.int (Int32.ofNat n)), (.int ic)]))
      refine Ends.go (fun _ => XS.icmpYes X9.here hx rfl (pc0 := 21) (pc' := 45) rfl (hb hby d1_21) rfl (flt (fun z => absurd ((own_lt hi hnl).mp z) (by omega) : ¬ (ic < (Int32.ofNat n)))).2.1 (by decide) (by decide)) ?_
      show Ends p.tables e below G (T9.setTop (mkF m 45 #[rv r, rv b, .val (.double (D (own_sm A i))), .second, iv ic] []))
      refine own_finN X9 hx Bd.returns Bd.notSynchronized (hb hby d1_45) (Q := (Q1 Z r b n A D h0 n0)) hG (by decide) (by decide) ?_
      show (Q1 Z r b n A D h0 n0) _ T9.heap _
      rw [e9]
      exact ⟨rfl, N9, sz9, E9, _, F9, AF.congr U9 (fun j hj => by rw [if_pos (by omega)])⟩
    | succ k ih =>
      intro i ic T9 L9 h9 X9 e9 N9 sz9 E9 F9 V9 U9 hi hk
      have hs1 := own_sm_le hA i
      have hs2 := hA i
      refine Ends.go (fun _ => XS.iload X9.here hx rfl (hb hby d1_17) rfl) ?_
      show Ends p.tables e below G (T9.setTop (mkF m 19 #[rv r, rv b, .val (.double (D (own_sm A i))), .second, iv ic] [(.int ic)]))
      refine Ends.go (fun _ => XS.aloadN X9.here hx rfl (hb hby d1_19) rfl rfl) ?_
      show Ends p.tables e below G (T9.setTop (mkF m 20 #[rv r, rv b, .val (.double (D (own_sm A i))), .second, iv ic] [(.ref b), (.int ic)]))
      refine Ends.go (fun _ => AF.len V9 X9 hx hZ e9 (z := (Int32.ofNat n)) rfl (g := (mkF m 20 #[rv r, rv b, .val (.double (D (own_sm A i))), .second, iv ic] [(.ref b), (.int ic)])) rfl rfl (hb hby d1_20) _) ?_
      show Ends p.tables e below G (T9.setTop (mkF m 21 #[rv r, rv b, .val (.double (D (own_sm A i))), .second, iv ic] [(.int (Int32.ofNat n)), (.int ic)]))
      refine Ends.go (fun _ => XS.icmpNo X9.here hx rfl (hb hby d1_21) rfl (tlt ((own_lt hi hnl).mpr (by omega) : ic < (Int32.ofNat n))).2.1) ?_
      show Ends p.tables e below G (T9.setTop (mkF m 24 #[rv r, rv b, .val (.double (D (own_sm A i))), .second, iv ic] []))
      refine Ends.go (fun _ => XS.dloadN X9.here hx rfl (hb hby d1_24) rfl) ?_
      show Ends p.tables e below G (T9.setTop (mkF m 25 #[rv r, rv b, .val (.double (D (own_sm A i))), .second, iv ic] [(.double (D (own_sm A i)))]))
      refine Ends.go (fun _ => XS.aloadN X9.here hx rfl (hb hby d1_25) rfl rfl) ?_
      show Ends p.tables e below G (T9.setTop (mkF m 26 #[rv r, rv b, .val (.double (D (own_sm A i))), .second, iv ic] [(.ref b), (.double (D (own_sm A i)))]))
      refine Ends.go (fun _ => XS.iload X9.here hx rfl (hb hby d1_26) rfl) ?_
      show Ends p.tables e below G (T9.setTop (mkF m 28 #[rv r, rv b, .val (.double (D (own_sm A i))), .second, iv ic] [(.int ic), (.ref b), (.double (D (own_sm A i)))]))
      refine Ends.go (fun _ => AF.ldD V9 X9 hx hZ e9 (j := ic) (i := i) hi (by omega) (v := (.double (D (A i)))) rfl (g := (mkF m 28 #[rv r, rv b, .val (.double (D (own_sm A i))), .second, iv ic] [(.int ic), (.ref b), (.double (D (own_sm A i)))])) rfl rfl (hb hby d1_28) _) ?_
      show Ends p.tables e below G (T9.setTop (mkF m 29 #[rv r, rv b, .val (.double (D (own_sm A i))), .second, iv ic] [(.double (D (A i))), (.double (D (own_sm A i)))]))
      refine Ends.go (fun _ => XS.daddS X9.here hx rfl (hb hby d1_29) rfl (by rw [hDa _ _ (by omega) (by omega)]; exact hDn _ (by omega)) (hDa _ _ (by omega) (by omega))) ?_
      show Ends p.tables e below G (T9.setTop (mkF m 30 #[rv r, rv b, .val (.double (D (own_sm A i))), .second, iv ic] [(.double (D (own_sm A (i + 1))))]))
      refine Ends.go (fun _ => XS.dstoreN (g := (mkF m 30 #[rv r, rv b, .val (.double (D (own_sm A i))), .second, iv ic] [(.double (D (own_sm A (i + 1))))])) X9.here hx rfl (hb hby d1_30) rfl (l' := #[rv r, rv b, .val (.double (D (own_sm A (i + 1)))), .second, iv ic]) rfl) ?_
      show Ends p.tables e below G (T9.setTop (mkF m 31 #[rv r, rv b, .val (.double (D (own_sm A (i + 1)))), .second, iv ic] []))
      refine Ends.go (fun _ => XS.aloadN X9.here hx rfl (hb hby d1_31) rfl rfl) ?_
      show Ends p.tables e below G (T9.setTop (mkF m 32 #[rv r, rv b, .val (.double (D (own_sm A (i + 1)))), .second, iv ic] [(.ref r)]))
      obtain ⟨T4, X4, e4, st4⟩ := getF X9 hx hZ hown (host := "") (Or.inl (hw _ (List.mem_of_getElem? (i := 12) rfl))) Via.refl e9 F9 (g := (mkF m 32 #[rv r, rv b, .val (.double (D (own_sm A (i + 1)))), .second, iv ic] [(.ref r)])) rfl rfl (hb hby d1_32)
      refine Ends.go (fun _ => st4 _) ?_
      show Ends p.tables e below G (T4.setTop (mkF m 35 #[rv r, rv b, .val (.double (D (own_sm A (i + 1)))), .second, iv ic] [(.ref b2)]))
      refine Ends.go (fun _ => XS.iload X4.here hx rfl (hb hby d1_35) rfl) ?_
      show Ends p.tables e below G (T4.setTop (mkF m 37 #[rv r, rv b, .val (.double (D (own_sm A (i + 1)))), .second, iv ic] [(.int ic), (.ref b2)]))
      refine Ends.go (fun _ => XS.dloadN X4.here hx rfl (hb hby d1_37) rfl) ?_
      show Ends p.tables e below G (T4.setTop (mkF m 38 #[rv r, rv b, .val (.double (D (own_sm A (i + 1)))), .second, iv ic] [(.double (D (own_sm A (i + 1)))), (.int ic), (.ref b2)]))
      obtain ⟨T5, h5, X5, e5, W5, V5, st5⟩ := AF.stD U9 X4 hx hZ e4 (j := ic) (i := i) hi (by omega) (g := (mkF m 38 #[rv r, rv b, .val (.double (D (own_sm A (i + 1)))), .second, iv ic] [(.double (D (own_sm A (i + 1)))), (.int ic), (.ref b2)])) rfl rfl (hb hby d1_38)
      have f5_E_r := E9.wr W5
      have f5_F_r_cumulative := F9.other W5 (Or.inl ne_r_b2)
      have f5_V_b := AF.other V9 W5 ne_b_b2
      have sz5 := Nat.le_trans sz9 (Nat.le_of_eq W5.size.symm)
      have N5 := Fr.snoc X5 N9 g_b2
      refine Ends.go (fun _ => st5 _) ?_
      show Ends p.tables e below G (T5.setTop (mkF m 39 #[rv r, rv b, .val (.double (D (own_sm A (i + 1)))), .second, iv ic] []))
      refine Ends.go (fun _ => XS.iinc (g := (mkF m 39 #[rv r, rv b, .val (.double (D (own_sm A (i + 1)))), .second, iv ic] [])) X5.here hx rfl (hb hby d1_39) rfl (l' := #[rv r, rv b, .val (.double (D (own_sm A (i + 1)))), .second, iv (ic + (1 : Int32))]) rfl) ?_
      show Ends p.tables e below G (T5.setTop (mkF m 42 #[rv r, rv b, .val (.double (D (own_sm A (i + 1)))), .second, iv (ic + (1 : Int32))] []))
      refine Ends.go (fun _ => XS.goto X5.here hx rfl (pc0 := 42) (pc' := 17) rfl (hb hby d1_42) (by decide) (by decide)) ?_
      show Ends p.tables e below G (T5.setTop (mkF m 17 #[rv r, rv b, .val (.double (D (own_sm A (i + 1)))), .second, iv (ic + (1 : Int32))] []))
      refine ih (i + 1) _ _ _ _ X5 e5 N5 sz5 f5_E_r f5_F_r_cumulative f5_V_b (AF.congr V5 (fun j hj => ?_)) (own_add hi (b := 1) (y := 1) rfl (by omega)) (by omega)
      show (if j = i then Value.double (D (own_sm A (i + 1))) else Value.double (if j < i then D (own_sm A (j + 1)) else 0)) = Value.double (if j < i + 1 then D (own_sm A (j + 1)) else 0)
      by_cases h1 : j = i
      · subst h1; rw [if_pos rfl, if_pos (by omega)]
      · rw [if_neg h1]
        by_cases h2 : j < i
        · rw [if_pos h2, if_pos (by omega)]
        · rw [if_neg h2, if_neg (by omega)]
  exact loop n 0 _ _ _ _ X3 e3 N3 sz3 f3_E_r f3_F_r_cumulative f3_V_b (AF.congr f3_V_b2 (fun j hj => by rw [if_neg (by omega)])) rfl (by omega)
theorem d3_0 : decode prog_57_method_3_code 0 = .ok (.dload_n 1, 1) := by decide +kernel
theorem d3_1 : decode prog_57_method_3_code 1 = .ok (.aload_n 0, 1) := by decide +kernel
theorem d3_2 : decode prog_57_method_3_code 2 = .ok (.getfield 7, 3) := by decide +kernel
theorem d3_5 : decode prog_57_method_3_code 5 = .ok (.aload_n 0, 1) := by decide +kernel
theorem d3_6 : decode prog_57_method_3_code 6 = .ok (.getfield 7, 3) := by decide +kernel
theorem d3_9 : decode prog_57_method_3_code 9 = .ok (.arraylength, 1) := by decide +kernel
theorem d3_10 : decode prog_57_method_3_code 10 = .ok (.iconst 1, 1) := by decide +kernel
theorem d3_11 : decode prog_57_method_3_code 11 = .ok (.isub, 1) := by decide +kernel
theorem d3_12 : decode prog_57_method_3_code 12 = .ok (.daload, 1) := by decide +kernel
theorem d3_13 : decode prog_57_method_3_code 13 = .ok (.dmul, 1) := by decide +kernel
theorem d3_14 : decode prog_57_method_3_code 14 = .ok (.dstore_n 3, 1) := by decide +kernel
theorem d3_15 : decode prog_57_method_3_code 15 = .ok (.iconst 0, 1) := by decide +kernel
theorem d3_16 : decode prog_57_method_3_code 16 = .ok (.istore 5, 2) := by decide +kernel
theorem d3_18 : decode prog_57_method_3_code 18 = .ok (.aload_n 0, 1) := by decide +kernel
theorem d3_19 : decode prog_57_method_3_code 19 = .ok (.getfield 7, 3) := by decide +kernel
theorem d3_22 : decode prog_57_method_3_code 22 = .ok (.arraylength, 1) := by decide +kernel
theorem d3_23 : decode prog_57_method_3_code 23 = .ok (.iconst 1, 1) := by decide +kernel
theorem d3_24 : decode prog_57_method_3_code 24 = .ok (.isub, 1) := by decide +kernel
theorem d3_25 : decode prog_57_method_3_code 25 = .ok (.istore 6, 2) := by decide +kernel
theorem d3_27 : decode prog_57_method_3_code 27 = .ok (.iload 5, 2) := by decide +kernel
theorem d3_29 : decode prog_57_method_3_code 29 = .ok (.iload 6, 2) := by decide +kernel
theorem d3_31 : decode prog_57_method_3_code 31 = .ok (.if_icmp .ge 40, 3) := by decide +kernel
theorem d3_34 : decode prog_57_method_3_code 34 = .ok (.iload 5, 2) := by decide +kernel
theorem d3_36 : decode prog_57_method_3_code 36 = .ok (.iload 6, 2) := by decide +kernel
theorem d3_38 : decode prog_57_method_3_code 38 = .ok (.iadd, 1) := by decide +kernel
theorem d3_39 : decode prog_57_method_3_code 39 = .ok (.iconst 1, 1) := by decide +kernel
theorem d3_40 : decode prog_57_method_3_code 40 = .ok (.iushr, 1) := by decide +kernel
theorem d3_41 : decode prog_57_method_3_code 41 = .ok (.istore 7, 2) := by decide +kernel
theorem d3_43 : decode prog_57_method_3_code 43 = .ok (.aload_n 0, 1) := by decide +kernel
theorem d3_44 : decode prog_57_method_3_code 44 = .ok (.getfield 7, 3) := by decide +kernel
theorem d3_47 : decode prog_57_method_3_code 47 = .ok (.iload 7, 2) := by decide +kernel
theorem d3_49 : decode prog_57_method_3_code 49 = .ok (.daload, 1) := by decide +kernel
theorem d3_50 : decode prog_57_method_3_code 50 = .ok (.dload_n 3, 1) := by decide +kernel
theorem d3_51 : decode prog_57_method_3_code 51 = .ok (.dcmp .l, 1) := by decide +kernel
theorem d3_52 : decode prog_57_method_3_code 52 = .ok (.ifCond .le 10, 3) := by decide +kernel
theorem d3_55 : decode prog_57_method_3_code 55 = .ok (.iload 7, 2) := by decide +kernel
theorem d3_57 : decode prog_57_method_3_code 57 = .ok (.istore 6, 2) := by decide +kernel
theorem d3_59 : decode prog_57_method_3_code 59 = .ok (.goto 9, 3) := by decide +kernel
theorem d3_62 : decode prog_57_method_3_code 62 = .ok (.iload 7, 2) := by decide +kernel
theorem d3_64 : decode prog_57_method_3_code 64 = .ok (.iconst 1, 1) := by decide +kernel
theorem d3_65 : decode prog_57_method_3_code 65 = .ok (.iadd, 1) := by decide +kernel
theorem d3_66 : decode prog_57_method_3_code 66 = .ok (.istore 5, 2) := by decide +kernel
theorem d3_68 : decode prog_57_method_3_code 68 = .ok (.goto (-41), 3) := by decide +kernel
theorem d3_71 : decode prog_57_method_3_code 71 = .ok (.iload 5, 2) := by decide +kernel
theorem d3_73 : decode prog_57_method_3_code 73 = .ok (.ireturn, 1) := by decide +kernel
theorem pn_3 : plainName "com/example/bitstrata/bitstrata/bench/Weights" = true := by first | (simp [plainName, overriddenIn]; done) | decide +kernel
theorem ef_3 (m : MethodId) (x0 : Addr) (x1 : UInt64) : entryFrame m #[(.ref x0), (.double x1)] 8 = mkF m 0 #[rv x0, .val (.double x1), .second, un, un, un, un, un] [] := by first | (simp [entryFrame, mkF, argsToLocals, Value.category]; done) | rfl
def Q3 (Z : State) (r : Addr) (pl : UInt64) (kk : Nat) (cu : Addr) (n : Nat) (A : Nat → Nat) (t : Nat) (D : Nat → UInt64) (tg : UInt64) (h0 : Heap) (n0 : Nat) (v : Option Value) (h : Heap) (L : List Loc) : Prop := ∃ (i : Nat) (q : Int32), v = some (.int q) ∧ Fr n0 L ∧ h = h0 ∧ q.toInt = (i : Int) ∧ i < n ∧ (∀ j, j < i → 1024 * own_sm A (j + 1) ≤ kk * t) ∧ (i + 1 = n ∨ kk * t < 1024 * own_sm A (i + 1))
set_option maxRecDepth 65536 in
set_option maxHeartbeats 40000000 in
theorem rm3 (l : Launch) (Z : State) (a0 : Array Value) (hw : ∀ d ∈ tables_1, d.before a0 Z = true) (ws : List Jvm.Cond) (r : Addr) (pl : UInt64) (kk : Nat) (cu : Addr) (n : Nat) (A : Nat → Nat) (t : Nat) (D : Nat → UInt64) (tg : UInt64) (h0 : Heap) (n0 : Nat) (Z0 : n0 ≤ h0.size) (E_r : Exa Z h0 r "com/example/bitstrata/bitstrata/bench/Weights") (F_c : Fld Z h0 r "com/example/bitstrata/bitstrata/bench/Weights" "cumulative" "[D" (.ref cu)) (V_c : AF Z h0 cu .double n (fun j => .double (D (own_sm A (j + 1))))) (hn : 0 < n ∧ n ≤ 4) (hA : ∀ j, A j ≤ 15) (ht : t = own_sm A n) (htg : FP.dmul pl (D t) = tg) (htn : Jvm.Free.Fl.NoNaN64 tg) (hcm : ∀ c, c < 61 → (0 < cmpValue (FP.dcmp (D c) tg) .l ↔ kk * t < 1024 * c)) :
    MetFree l (⟨"com/example/bitstrata/bitstrata/bench/Weights", "at", "(D)I"⟩ : MethodName) (head1 (Jvm.Cond.code (⟨"com/example/bitstrata/bitstrata/bench/Weights", "at", "(D)I"⟩ : MethodName) prog_57_method_3_code 8 (some .int) :: ws) ({ frames := 0, cells := 0, slots := 0, locals := 0 } : Room)) (fun a U => a = #[(.ref r), (.double pl)] ∧ Z.Warmed39 U.vm ∧ U.heap = h0) (fun _ _ _ _ _ => True) (fun _ U o U' => ∃ v L, o = .returned v ∧ Q3 Z r pl kk cu n A t D tg h0 n0 v U'.heap L ∧ FrameEnd U o U' L ({ frames := 0, cells := 0, slots := 0, locals := 0 } : Room).cells ({ frames := 0, cells := 0, slots := 0, locals := 0 } : Room).slots) := by
  refine MetFree.of_bodySF (plainFor_of_name pn_3) hisR ?_
  intro p e s m args below meth c s₁ Bd hml0 hP hK
  obtain ⟨rfl, hZ, hh⟩ := hP
  have hx := Bd.exec
  have hby := Bd.bytes
  have hml : c.maxLocals = 8 := hml0
  have hown : s.vm.findClass "com/example/bitstrata/bitstrata/bench/Weights" = some m.cls := findClass_of_methodNamed Bd.named
  have hnm := (name_of_methodNamed Bd.named Bd.method).1
  have X0 : Stand p l e ({ frames := 0, cells := 0, slots := 0, locals := 0 } : Room) s m #[(.ref r), (.double pl)] below meth c s₁ [] 0 0 := Stand.of_body Bd
  have e0 : s₁.heap = h0 := by rw [← hh, Bd.state]; rfl
  have N0 := Fr.nil n0
  show Ends p.tables e below (fun (s₂ : State) (o : Outcome) => ∃ v L, o = .returned v ∧ (Q3 Z r pl kk cu n A t D tg h0 n0) v s₂.heap L ∧ FrameEnd s o s₂ L ({ frames := 0, cells := 0, slots := 0, locals := 0 } : Room).cells ({ frames := 0, cells := 0, slots := 0, locals := 0 } : Room).slots) (s₁.setTop (entryFrame m #[(.ref r), (.double pl)] 8))
  refine Ends.any fun G hG => ?_
  refine Ends.go (fun t k => castTop (ef_3 m r pl) k) ?_
  show Ends p.tables e below G (s₁.setTop (mkF m 0 #[rv r, .val (.double pl), .second, un, un, un, un, un] []))
  have hnl : (Int32.ofNat n).toInt = (n : Int) := Int32.toInt_ofNat_of_lt (by omega)
  have hn1 : (Int32.ofNat n - 1).toInt = ((n - 1 : Nat) : Int) := by
    have q1 := c_isub (Int32.ofNat n) 1
    have q2 := rng32 (Int32.ofNat n - 1)
    have q3 : (1 : Int32).toInt = 1 := rfl
    omega
  have hcu : ∀ j, j < n → own_sm A (j + 1) < 61 := fun j hj => by have := own_sm_le hA (j + 1); omega
  refine Ends.go (fun _ => XS.dloadN X0.here hx rfl (hb hby d3_0) rfl) ?_
  show Ends p.tables e below G (s₁.setTop (mkF m 1 #[rv r, .val (.double pl), .second, un, un, un, un, un] [(.double pl)]))
  refine Ends.go (fun _ => XS.aloadN X0.here hx rfl (hb hby d3_1) rfl rfl) ?_
  show Ends p.tables e below G (s₁.setTop (mkF m 2 #[rv r, .val (.double pl), .second, un, un, un, un, un] [(.ref r), (.double pl)]))
  obtain ⟨T1, X1, e1, st1⟩ := getF X0 hx hZ hown (host := "") (Or.inl (hw _ (List.mem_of_getElem? (i := 12) rfl))) Via.refl e0 F_c (g := (mkF m 2 #[rv r, .val (.double pl), .second, un, un, un, un, un] [(.ref r), (.double pl)])) rfl rfl (hb hby d3_2)
  refine Ends.go (fun _ => st1 _) ?_
  show Ends p.tables e below G (T1.setTop (mkF m 5 #[rv r, .val (.double pl), .second, un, un, un, un, un] [(.ref cu), (.double pl)]))
  refine Ends.go (fun _ => XS.aloadN X1.here hx rfl (hb hby d3_5) rfl rfl) ?_
  show Ends p.tables e below G (T1.setTop (mkF m 6 #[rv r, .val (.double pl), .second, un, un, un, un, un] [(.ref r), (.ref cu), (.double pl)]))
  obtain ⟨T2, X2, e2, st2⟩ := getF X1 hx hZ hown (host := "") (Or.inl (hw _ (List.mem_of_getElem? (i := 12) rfl))) Via.refl e1 F_c (g := (mkF m 6 #[rv r, .val (.double pl), .second, un, un, un, un, un] [(.ref r), (.ref cu), (.double pl)])) rfl rfl (hb hby d3_6)
  refine Ends.go (fun _ => st2 _) ?_
  show Ends p.tables e below G (T2.setTop (mkF m 9 #[rv r, .val (.double pl), .second, un, un, un, un, un] [(.ref cu), (.ref cu), (.double pl)]))
  refine Ends.go (fun _ => AF.len V_c X2 hx hZ e2 (z := (Int32.ofNat n)) rfl (g := (mkF m 9 #[rv r, .val (.double pl), .second, un, un, un, un, un] [(.ref cu), (.ref cu), (.double pl)])) rfl rfl (hb hby d3_9) _) ?_
  show Ends p.tables e below G (T2.setTop (mkF m 10 #[rv r, .val (.double pl), .second, un, un, un, un, un] [(.int (Int32.ofNat n)), (.ref cu), (.double pl)]))
  refine Ends.go (fun _ => XS.iconst X2.here hx rfl (hb hby d3_10)) ?_
  show Ends p.tables e below G (T2.setTop (mkF m 11 #[rv r, .val (.double pl), .second, un, un, un, un, un] [(.int (1 : Int32)), (.int (Int32.ofNat n)), (.ref cu), (.double pl)]))
  refine Ends.go (fun _ => XS.isub X2.here hx rfl (hb hby d3_11) rfl) ?_
  show Ends p.tables e below G (T2.setTop (mkF m 12 #[rv r, .val (.double pl), .second, un, un, un, un, un] [(.int ((Int32.ofNat n) - (1 : Int32))), (.ref cu), (.double pl)]))
  refine Ends.go (fun _ => AF.ldD V_c X2 hx hZ e2 (j := ((Int32.ofNat n) - (1 : Int32))) (i := (n - 1)) hn1 (by omega) (v := (.double (D t))) (by rw [ht, show n - 1 + 1 = n by omega]) (g := (mkF m 12 #[rv r, .val (.double pl), .second, un, un, un, un, un] [(.int ((Int32.ofNat n) - (1 : Int32))), (.ref cu), (.double pl)])) rfl rfl (hb hby d3_12) _) ?_
  show Ends p.tables e below G (T2.setTop (mkF m 13 #[rv r, .val (.double pl), .second, un, un, un, un, un] [(.double (D t)), (.double pl)]))
  refine Ends.go (fun _ => XS.dmulS X2.here hx rfl (hb hby d3_13) rfl (by rw [htg]; exact htn) htg) ?_
  show Ends p.tables e below G (T2.setTop (mkF m 14 #[rv r, .val (.double pl), .second, un, un, un, un, un] [(.double tg)]))
  refine Ends.go (fun _ => XS.dstoreN (g := (mkF m 14 #[rv r, .val (.double pl), .second, un, un, un, un, un] [(.double tg)])) X2.here hx rfl (hb hby d3_14) rfl (l' := #[rv r, .val (.double pl), .second, .val (.double tg), .second, un, un, un]) rfl) ?_
  show Ends p.tables e below G (T2.setTop (mkF m 15 #[rv r, .val (.double pl), .second, .val (.double tg), .second, un, un, un] []))
  refine Ends.go (fun _ => XS.iconst X2.here hx rfl (hb hby d3_15)) ?_
  show Ends p.tables e below G (T2.setTop (mkF m 16 #[rv r, .val (.double pl), .second, .val (.double tg), .second, un, un, un] [(.int (0 : Int32))]))
  refine Ends.go (fun _ => XS.istore (g := (mkF m 16 #[rv r, .val (.double pl), .second, .val (.double tg), .second, un, un, un] [(.int (0 : Int32))])) X2.here hx rfl (hb hby d3_16) rfl (l' := #[rv r, .val (.double pl), .second, .val (.double tg), .second, iv (0 : Int32), un, un]) rfl) ?_
  show Ends p.tables e below G (T2.setTop (mkF m 18 #[rv r, .val (.double pl), .second, .val (.double tg), .second, iv (0 : Int32), un, un] []))
  refine Ends.go (fun _ => XS.aloadN X2.here hx rfl (hb hby d3_18) rfl rfl) ?_
  show Ends p.tables e below G (T2.setTop (mkF m 19 #[rv r, .val (.double pl), .second, .val (.double tg), .second, iv (0 : Int32), un, un] [(.ref r)]))
  obtain ⟨T3, X3, e3, st3⟩ := getF X2 hx hZ hown (host := "") (Or.inl (hw _ (List.mem_of_getElem? (i := 12) rfl))) Via.refl e2 F_c (g := (mkF m 19 #[rv r, .val (.double pl), .second, .val (.double tg), .second, iv (0 : Int32), un, un] [(.ref r)])) rfl rfl (hb hby d3_19)
  refine Ends.go (fun _ => st3 _) ?_
  show Ends p.tables e below G (T3.setTop (mkF m 22 #[rv r, .val (.double pl), .second, .val (.double tg), .second, iv (0 : Int32), un, un] [(.ref cu)]))
  refine Ends.go (fun _ => AF.len V_c X3 hx hZ e3 (z := (Int32.ofNat n)) rfl (g := (mkF m 22 #[rv r, .val (.double pl), .second, .val (.double tg), .second, iv (0 : Int32), un, un] [(.ref cu)])) rfl rfl (hb hby d3_22) _) ?_
  show Ends p.tables e below G (T3.setTop (mkF m 23 #[rv r, .val (.double pl), .second, .val (.double tg), .second, iv (0 : Int32), un, un] [(.int (Int32.ofNat n))]))
  refine Ends.go (fun _ => XS.iconst X3.here hx rfl (hb hby d3_23)) ?_
  show Ends p.tables e below G (T3.setTop (mkF m 24 #[rv r, .val (.double pl), .second, .val (.double tg), .second, iv (0 : Int32), un, un] [(.int (1 : Int32)), (.int (Int32.ofNat n))]))
  refine Ends.go (fun _ => XS.isub X3.here hx rfl (hb hby d3_24) rfl) ?_
  show Ends p.tables e below G (T3.setTop (mkF m 25 #[rv r, .val (.double pl), .second, .val (.double tg), .second, iv (0 : Int32), un, un] [(.int ((Int32.ofNat n) - (1 : Int32)))]))
  refine Ends.go (fun _ => XS.istore (g := (mkF m 25 #[rv r, .val (.double pl), .second, .val (.double tg), .second, iv (0 : Int32), un, un] [(.int ((Int32.ofNat n) - (1 : Int32)))])) X3.here hx rfl (hb hby d3_25) rfl (l' := #[rv r, .val (.double pl), .second, .val (.double tg), .second, iv (0 : Int32), iv ((Int32.ofNat n) - (1 : Int32)), un]) rfl) ?_
  show Ends p.tables e below G (T3.setTop (mkF m 27 #[rv r, .val (.double pl), .second, .val (.double tg), .second, iv (0 : Int32), iv ((Int32.ofNat n) - (1 : Int32)), un] []))
  have loop : ∀ (k : Nat) (T9 : State) (lo hi : Nat) (lov hiv : Int32) (s7 : Slot), Stand p l e ({ frames := 0, cells := 0, slots := 0, locals := 0 } : Room) s m #[(.ref r), (.double pl)] below meth c T9 [] 0 0 → T9.heap = h0 → lov.toInt = (lo : Int) → hiv.toInt = (hi : Int) → One s7 → lo ≤ hi → hi < n → hi - lo ≤ k → (∀ j, j < lo → 1024 * own_sm A (j + 1) ≤ kk * t) → (hi + 1 = n ∨ kk * t < 1024 * own_sm A (hi + 1)) → Ends p.tables e below G (T9.setTop (mkF m 27 #[rv r, .val (.double pl), .second, .val (.double tg), .second, iv lov, iv hiv, s7] [])) := by
    intro k
    induction k with
    | zero =>
      intro T9 lo hi lov hiv s7 X9 e9 hlo hhi h7 h5 h6 hk h8 h9
      refine Ends.go (fun _ => XS.iload X9.here hx rfl (hb hby d3_27) rfl) ?_
      show Ends p.tables e below G (T9.setTop (mkF m 29 #[rv r, .val (.double pl), .second, .val (.double tg), .second, iv lov, iv hiv, s7] [(.int lov)]))
      refine Ends.go (fun _ => XS.iload X9.here hx rfl (hb hby d3_29) rfl) ?_
      show Ends p.tables e below G (T9.setTop (mkF m 31 #[rv r, .val (.double pl), .second, .val (.double tg), .second, iv lov, iv hiv, s7] [(.int hiv), (.int lov)]))
      refine Ends.go (fun _ => XS.icmpYes X9.here hx rfl (pc0 := 31) (pc' := 71) rfl (hb hby d3_31) rfl (flt (fun z => absurd ((own_lt hlo hhi).mp z) (by omega) : ¬ (lov < hiv))).2.1 (by decide) (by decide)) ?_
      show Ends p.tables e below G (T9.setTop (mkF m 71 #[rv r, .val (.double pl), .second, .val (.double tg), .second, iv lov, iv hiv, s7] []))
      refine Ends.go (fun _ => XS.iload X9.here hx rfl (hb hby d3_71) rfl) ?_
      show Ends p.tables e below G (T9.setTop (mkF m 73 #[rv r, .val (.double pl), .second, .val (.double tg), .second, iv lov, iv hiv, s7] [(.int lov)]))
      refine own_finI X9 hx Bd.returns Bd.notSynchronized (hb hby d3_73) (Q := (Q3 Z r pl kk cu n A t D tg h0 n0)) hG (by decide) (by decide) ?_
      show (Q3 Z r pl kk cu n A t D tg h0 n0) _ T9.heap _
      rw [e9]
      exact ⟨lo, _, rfl, N0, rfl, hlo, by omega, h8, by rw [show lo = hi by omega]; exact h9⟩
    | succ k ih =>
      intro T9 lo hi lov hiv s7 X9 e9 hlo hhi h7 h5 h6 hk h8 h9
      by_cases h10 : lo = hi
      · refine Ends.go (fun _ => XS.iload X9.here hx rfl (hb hby d3_27) rfl) ?_
        show Ends p.tables e below G (T9.setTop (mkF m 29 #[rv r, .val (.double pl), .second, .val (.double tg), .second, iv lov, iv hiv, s7] [(.int lov)]))
        refine Ends.go (fun _ => XS.iload X9.here hx rfl (hb hby d3_29) rfl) ?_
        show Ends p.tables e below G (T9.setTop (mkF m 31 #[rv r, .val (.double pl), .second, .val (.double tg), .second, iv lov, iv hiv, s7] [(.int hiv), (.int lov)]))
        refine Ends.go (fun _ => XS.icmpYes X9.here hx rfl (pc0 := 31) (pc' := 71) rfl (hb hby d3_31) rfl (flt (fun z => absurd ((own_lt hlo hhi).mp z) (by omega) : ¬ (lov < hiv))).2.1 (by decide) (by decide)) ?_
        show Ends p.tables e below G (T9.setTop (mkF m 71 #[rv r, .val (.double pl), .second, .val (.double tg), .second, iv lov, iv hiv, s7] []))
        refine Ends.go (fun _ => XS.iload X9.here hx rfl (hb hby d3_71) rfl) ?_
        show Ends p.tables e below G (T9.setTop (mkF m 73 #[rv r, .val (.double pl), .second, .val (.double tg), .second, iv lov, iv hiv, s7] [(.int lov)]))
        refine own_finI X9 hx Bd.returns Bd.notSynchronized (hb hby d3_73) (Q := (Q3 Z r pl kk cu n A t D tg h0 n0)) hG (by decide) (by decide) ?_
        show (Q3 Z r pl kk cu n A t D tg h0 n0) _ T9.heap _
        rw [e9]
        exact ⟨lo, _, rfl, N0, rfl, hlo, by omega, h8, by rw [show lo = hi by omega]; exact h9⟩
      · refine Ends.go (fun _ => XS.iload X9.here hx rfl (hb hby d3_27) rfl) ?_
        show Ends p.tables e below G (T9.setTop (mkF m 29 #[rv r, .val (.double pl), .second, .val (.double tg), .second, iv lov, iv hiv, s7] [(.int lov)]))
        refine Ends.go (fun _ => XS.iload X9.here hx rfl (hb hby d3_29) rfl) ?_
        show Ends p.tables e below G (T9.setTop (mkF m 31 #[rv r, .val (.double pl), .second, .val (.double tg), .second, iv lov, iv hiv, s7] [(.int hiv), (.int lov)]))
        refine Ends.go (fun _ => XS.icmpNo X9.here hx rfl (hb hby d3_31) rfl (tlt ((own_lt hlo hhi).mpr (by omega) : lov < hiv)).2.1) ?_
        show Ends p.tables e below G (T9.setTop (mkF m 34 #[rv r, .val (.double pl), .second, .val (.double tg), .second, iv lov, iv hiv, s7] []))
        refine Ends.go (fun _ => XS.iload X9.here hx rfl (hb hby d3_34) rfl) ?_
        show Ends p.tables e below G (T9.setTop (mkF m 36 #[rv r, .val (.double pl), .second, .val (.double tg), .second, iv lov, iv hiv, s7] [(.int lov)]))
        refine Ends.go (fun _ => XS.iload X9.here hx rfl (hb hby d3_36) rfl) ?_
        show Ends p.tables e below G (T9.setTop (mkF m 38 #[rv r, .val (.double pl), .second, .val (.double tg), .second, iv lov, iv hiv, s7] [(.int hiv), (.int lov)]))
        refine Ends.go (fun _ => XS.iadd X9.here hx rfl (hb hby d3_38) rfl) ?_
        show Ends p.tables e below G (T9.setTop (mkF m 39 #[rv r, .val (.double pl), .second, .val (.double tg), .second, iv lov, iv hiv, s7] [(.int (lov + hiv))]))
        refine Ends.go (fun _ => XS.iconst X9.here hx rfl (hb hby d3_39)) ?_
        show Ends p.tables e below G (T9.setTop (mkF m 40 #[rv r, .val (.double pl), .second, .val (.double tg), .second, iv lov, iv hiv, s7] [(.int (1 : Int32)), (.int (lov + hiv))]))
        refine Ends.go (fun _ => XS.iushr X9.here hx rfl (hb hby d3_40) rfl) ?_
        show Ends p.tables e below G (T9.setTop (mkF m 41 #[rv r, .val (.double pl), .second, .val (.double tg), .second, iv lov, iv hiv, s7] [(.int (((lov + hiv).toUInt32 >>> ((1 : Int32) &&& 31).toUInt32).toInt32))]))
        obtain ⟨md, hm1, hm2, hmd⟩ : ∃ md : Nat, lo ≤ md ∧ md < hi ∧ (((lov + hiv).toUInt32 >>> ((1 : Int32) &&& 31).toUInt32).toInt32).toInt = (md : Int) := by
          have q1 := c_iushr (lov + hiv) 1 1 (by decide) (by decide)
          have q2 := c_iadd lov hiv
          have q3 := rng32 (lov + hiv)
          exact ⟨(lo + hi) / 2, by omega, by omega, by rw [q1]; omega⟩
        generalize (((lov + hiv).toUInt32 >>> ((1 : Int32) &&& 31).toUInt32).toInt32) = mdv at hmd ⊢
        show Ends p.tables e below G (T9.setTop (mkF m 41 #[rv r, .val (.double pl), .second, .val (.double tg), .second, iv lov, iv hiv, s7] [(.int mdv)]))
        refine Ends.go (fun _ => XS.istore (g := (mkF m 41 #[rv r, .val (.double pl), .second, .val (.double tg), .second, iv lov, iv hiv, s7] [(.int mdv)])) X9.here hx rfl (hb hby d3_41) rfl (l' := #[rv r, .val (.double pl), .second, .val (.double tg), .second, iv lov, iv hiv, iv mdv]) (XS.store1 rfl h7 rfl)) ?_
        show Ends p.tables e below G (T9.setTop (mkF m 43 #[rv r, .val (.double pl), .second, .val (.double tg), .second, iv lov, iv hiv, iv mdv] []))
        refine Ends.go (fun _ => XS.aloadN X9.here hx rfl (hb hby d3_43) rfl rfl) ?_
        show Ends p.tables e below G (T9.setTop (mkF m 44 #[rv r, .val (.double pl), .second, .val (.double tg), .second, iv lov, iv hiv, iv mdv] [(.ref r)]))
        obtain ⟨T4, X4, e4, st4⟩ := getF X9 hx hZ hown (host := "") (Or.inl (hw _ (List.mem_of_getElem? (i := 12) rfl))) Via.refl e9 F_c (g := (mkF m 44 #[rv r, .val (.double pl), .second, .val (.double tg), .second, iv lov, iv hiv, iv mdv] [(.ref r)])) rfl rfl (hb hby d3_44)
        refine Ends.go (fun _ => st4 _) ?_
        show Ends p.tables e below G (T4.setTop (mkF m 47 #[rv r, .val (.double pl), .second, .val (.double tg), .second, iv lov, iv hiv, iv mdv] [(.ref cu)]))
        refine Ends.go (fun _ => XS.iload X4.here hx rfl (hb hby d3_47) rfl) ?_
        show Ends p.tables e below G (T4.setTop (mkF m 49 #[rv r, .val (.double pl), .second, .val (.double tg), .second, iv lov, iv hiv, iv mdv] [(.int mdv), (.ref cu)]))
        refine Ends.go (fun _ => AF.ldD V_c X4 hx hZ e4 (j := mdv) (i := md) hmd (by omega) (v := (.double (D (own_sm A (md + 1))))) rfl (g := (mkF m 49 #[rv r, .val (.double pl), .second, .val (.double tg), .second, iv lov, iv hiv, iv mdv] [(.int mdv), (.ref cu)])) rfl rfl (hb hby d3_49) _) ?_
        show Ends p.tables e below G (T4.setTop (mkF m 50 #[rv r, .val (.double pl), .second, .val (.double tg), .second, iv lov, iv hiv, iv mdv] [(.double (D (own_sm A (md + 1))))]))
        refine Ends.go (fun _ => XS.dloadN X4.here hx rfl (hb hby d3_50) rfl) ?_
        show Ends p.tables e below G (T4.setTop (mkF m 51 #[rv r, .val (.double pl), .second, .val (.double tg), .second, iv lov, iv hiv, iv mdv] [(.double tg), (.double (D (own_sm A (md + 1))))]))
        refine Ends.go (fun _ => XS.dcmpS X4.here hx rfl (hb hby d3_51) rfl rfl) ?_
        show Ends p.tables e below G (T4.setTop (mkF m 52 #[rv r, .val (.double pl), .second, .val (.double tg), .second, iv lov, iv hiv, iv mdv] [(.int (cmpValue (FP.dcmp (D (own_sm A (md + 1))) tg) .l))]))
        have hcmp := hcm _ (hcu md (by omega))
        by_cases q1 : kk * t < 1024 * own_sm A (md + 1)
        · refine Ends.go (fun _ => XS.ifNo X4.here hx rfl (hb hby d3_52) rfl ((if0 _ _).trans (tlt (hcmp.mpr q1 : (0 : Int32) < (cmpValue (FP.dcmp (D (own_sm A (md + 1))) tg) .l))).2.2.2)) ?_
          show Ends p.tables e below G (T4.setTop (mkF m 55 #[rv r, .val (.double pl), .second, .val (.double tg), .second, iv lov, iv hiv, iv mdv] []))
          refine Ends.go (fun _ => XS.iload X4.here hx rfl (hb hby d3_55) rfl) ?_
          show Ends p.tables e below G (T4.setTop (mkF m 57 #[rv r, .val (.double pl), .second, .val (.double tg), .second, iv lov, iv hiv, iv mdv] [(.int mdv)]))
          refine Ends.go (fun _ => XS.istore (g := (mkF m 57 #[rv r, .val (.double pl), .second, .val (.double tg), .second, iv lov, iv hiv, iv mdv] [(.int mdv)])) X4.here hx rfl (hb hby d3_57) rfl (l' := #[rv r, .val (.double pl), .second, .val (.double tg), .second, iv lov, iv mdv, iv mdv]) rfl) ?_
          show Ends p.tables e below G (T4.setTop (mkF m 59 #[rv r, .val (.double pl), .second, .val (.double tg), .second, iv lov, iv mdv, iv mdv] []))
          refine Ends.go (fun _ => XS.goto X4.here hx rfl (pc0 := 59) (pc' := 68) rfl (hb hby d3_59) (by decide) (by decide)) ?_
          show Ends p.tables e below G (T4.setTop (mkF m 68 #[rv r, .val (.double pl), .second, .val (.double tg), .second, iv lov, iv mdv, iv mdv] []))
          refine Ends.go (fun _ => XS.goto X4.here hx rfl (pc0 := 68) (pc' := 27) rfl (hb hby d3_68) (by decide) (by decide)) ?_
          show Ends p.tables e below G (T4.setTop (mkF m 27 #[rv r, .val (.double pl), .second, .val (.double tg), .second, iv lov, iv mdv, iv mdv] []))
          exact ih _ lo md _ _ _ X4 e4 hlo hmd (One.val rfl) hm1 (by omega) (by omega) h8 (Or.inr q1)
        · refine Ends.go (fun _ => XS.ifYes X4.here hx rfl (pc0 := 52) (pc' := 62) rfl (hb hby d3_52) rfl ((if0 _ _).trans (flt (fun z => q1 (hcmp.mp z) : ¬ ((0 : Int32) < (cmpValue (FP.dcmp (D (own_sm A (md + 1))) tg) .l)))).2.2.2) (by decide) (by decide)) ?_
          show Ends p.tables e below G (T4.setTop (mkF m 62 #[rv r, .val (.double pl), .second, .val (.double tg), .second, iv lov, iv hiv, iv mdv] []))
          refine Ends.go (fun _ => XS.iload X4.here hx rfl (hb hby d3_62) rfl) ?_
          show Ends p.tables e below G (T4.setTop (mkF m 64 #[rv r, .val (.double pl), .second, .val (.double tg), .second, iv lov, iv hiv, iv mdv] [(.int mdv)]))
          refine Ends.go (fun _ => XS.iconst X4.here hx rfl (hb hby d3_64)) ?_
          show Ends p.tables e below G (T4.setTop (mkF m 65 #[rv r, .val (.double pl), .second, .val (.double tg), .second, iv lov, iv hiv, iv mdv] [(.int (1 : Int32)), (.int mdv)]))
          refine Ends.go (fun _ => XS.iadd X4.here hx rfl (hb hby d3_65) rfl) ?_
          show Ends p.tables e below G (T4.setTop (mkF m 66 #[rv r, .val (.double pl), .second, .val (.double tg), .second, iv lov, iv hiv, iv mdv] [(.int (mdv + (1 : Int32)))]))
          refine Ends.go (fun _ => XS.istore (g := (mkF m 66 #[rv r, .val (.double pl), .second, .val (.double tg), .second, iv lov, iv hiv, iv mdv] [(.int (mdv + (1 : Int32)))])) X4.here hx rfl (hb hby d3_66) rfl (l' := #[rv r, .val (.double pl), .second, .val (.double tg), .second, iv (mdv + (1 : Int32)), iv hiv, iv mdv]) rfl) ?_
          show Ends p.tables e below G (T4.setTop (mkF m 68 #[rv r, .val (.double pl), .second, .val (.double tg), .second, iv (mdv + (1 : Int32)), iv hiv, iv mdv] []))
          refine Ends.go (fun _ => XS.goto X4.here hx rfl (pc0 := 68) (pc' := 27) rfl (hb hby d3_68) (by decide) (by decide)) ?_
          show Ends p.tables e below G (T4.setTop (mkF m 27 #[rv r, .val (.double pl), .second, .val (.double tg), .second, iv (mdv + (1 : Int32)), iv hiv, iv mdv] []))
          refine ih _ (md + 1) hi _ _ _ X4 e4 (own_add hmd (b := 1) (y := 1) rfl (by omega)) hhi (One.val rfl) (by omega) h6 (by omega) (fun j hj => ?_) h9
          have q2 := own_sm_mon A (show j + 1 ≤ md + 1 by omega)
          omega
  exact loop n _ 0 (n - 1) _ _ _ X3 e3 rfl hn1 One.u (by omega) (by omega) (by omega) (fun j hj => absurd hj (by omega)) (Or.inl (by omega))
def own_A4 (ua0 ua1 ua2 ua3 : Nat) : Nat → Nat
  | 0 => ua0
  | 1 => ua1
  | 2 => ua2
  | 3 => ua3
  | _ => 0
theorem own_m15 (x : Int32) : ∃ n : Nat, n ≤ 15 ∧ (x &&& (15 : Int32)).toInt = (n : Int) := by
  have h := c_mask x 15 4 (by decide) (by decide)
  have h1 := Int.emod_nonneg x.toInt (b := ((2 ^ 4 : Nat) : Int)) (by decide)
  have h2 := Int.emod_lt_of_pos x.toInt (b := ((2 ^ 4 : Nat) : Int)) (by decide)
  have e : ((2 ^ 4 : Nat) : Int) = 16 := rfl
  exact ⟨(x.toInt % ((2 ^ 4 : Nat) : Int)).toNat, by omega, by omega⟩
/-- the first index from m on whose running total passes N, or the last one -/
def own_CH (A : Nat → Nat) (nn N m rf : Nat) : Prop := rf < nn ∧ (m ≤ rf ∨ rf + 1 = nn) ∧ (∀ j, m ≤ j → j < rf → 1024 * own_sm A (j + 1) ≤ N) ∧ (rf + 1 = nn ∨ N < 1024 * own_sm A (rf + 1))
theorem own_uniq {A : Nat → Nat} {nn N r1 r2 : Nat} (h1 : own_CH A nn N 0 r1) (h2 : r2 < nn ∧ (∀ j, j < r2 → 1024 * own_sm A (j + 1) ≤ N) ∧ (r2 + 1 = nn ∨ N < 1024 * own_sm A (r2 + 1))) : r2 = r1 := by
  obtain ⟨ua1, -, ua3, a4⟩ := h1
  obtain ⟨b1, b2, b3⟩ := h2
  rcases Nat.lt_trichotomy r1 r2 with g | g | g
  · have := b2 r1 g; omega
  · exact g.symm
  · have := ua3 r2 (Nat.zero_le _) g; omega
theorem own_l1024 {x : Int32} {n : Nat} (hx : x.toInt = (n : Int)) (hn : n < 1000) : ((1024 : Int64) * x.toInt64).toInt = ((1024 * n : Nat) : Int) := by
  have q1 := c_lmul 1024 x.toInt64
  have q2 := rng64 (1024 * x.toInt64)
  have q3 := c_i2l x
  have q4 : (1024 : Int64).toInt = 1024 := rfl
  rw [q4] at q1
  omega
theorem own_lgt {x y : Int64} {a b : Nat} (hx : x.toInt = (a : Int)) (hy : y.toInt = (b : Int)) : 0 < lcmpW x y ↔ b < a := by
  rw [lw_gt, Int64.lt_iff_toInt_lt, hx, hy]; omega
theorem pd_1 : parseMethodDescriptor "([D)V" = some ⟨[(.array .double)], none⟩ := by decide +kernel
theorem pd_2 : parseMethodDescriptor "(D)I" = some ⟨[.double], some .int⟩ := by decide +kernel
theorem pn_0 : plainName "com/example/bitstrata/bitstrata/bench/WeightsAtPinLaw" = true := by first | (simp [plainName, overriddenIn]; done) | decide +kernel
theorem ef_0 (m : MethodId) (x0 : Int32) (x1 : Int32) (x2 : Int32) (x3 : Int32) (x4 : Int32) : entryFrame m #[(.int x0), (.int x1), (.int x2), (.int x3), (.int x4)] maxLocals = mkF m 0 #[iv x0, iv x1, iv x2, iv x3, iv x4, un, un, un, un, un, un, un, un, un, un, un, un, un, un, un, un, un, un] [] := by first | (simp [entryFrame, mkF, argsToLocals, Value.category, maxLocals]; done) | rfl
def Q0 (Z : State) (v0 : Int32) (v1 : Int32) (v2 : Int32) (v3 : Int32) (ve : Int32) (h0 : Heap) (n0 : Nat) (v : Option Value) (h : Heap) (L : List Loc) : Prop := v = some (.int 1) ∧ Fr n0 L
set_option maxRecDepth 65536 in
set_option maxHeartbeats 40000000 in
theorem rm0 (l : Launch) (Z : State) (a0 : Array Value) (hw : ∀ d ∈ tables_1, d.before a0 Z = true) (ws : List Jvm.Cond) (v0 : Int32) (v1 : Int32) (v2 : Int32) (v3 : Int32) (ve : Int32) (h0 : Heap) (n0 : Nat) (Z0 : n0 ≤ h0.size) :
    MetFree l x (head1 (Jvm.Cond.code x code maxLocals ret :: ws) room_1) (fun a U => a = #[(.int v0), (.int v1), (.int v2), (.int v3), (.int ve)] ∧ Z.Warmed39 U.vm ∧ U.heap = h0) (fun _ _ _ _ _ => True) (fun _ U o U' => ∃ v L, o = .returned v ∧ Q0 Z v0 v1 v2 v3 ve h0 n0 v U'.heap L ∧ FrameEnd U o U' L room_1.cells room_1.slots) := by
  refine MetFree.of_bodySF (plainFor_of_name pn_0) hisR ?_
  intro p e s m args below meth c s₁ Bd hml0 hP hK
  obtain ⟨rfl, hZ, hh⟩ := hP
  have hx := Bd.exec
  have hby := Bd.bytes
  have hml : c.maxLocals = 23 := hml0
  have hown : s.vm.findClass "com/example/bitstrata/bitstrata/bench/WeightsAtPinLaw" = some m.cls := findClass_of_methodNamed Bd.named
  have hnm := (name_of_methodNamed Bd.named Bd.method).1
  have X0 : Stand p l e room_1 s m #[(.int v0), (.int v1), (.int v2), (.int v3), (.int ve)] below meth c s₁ [] 0 0 := Stand.of_body Bd
  have e0 : s₁.heap = h0 := by rw [← hh, Bd.state]; rfl
  have N0 := Fr.nil n0
  show Ends p.tables e below (fun (s₂ : State) (o : Outcome) => ∃ v L, o = .returned v ∧ (Q0 Z v0 v1 v2 v3 ve h0 n0) v s₂.heap L ∧ FrameEnd s o s₂ L room_1.cells room_1.slots) (s₁.setTop (entryFrame m #[(.int v0), (.int v1), (.int v2), (.int v3), (.int ve)] maxLocals))
  refine Ends.any fun G hG => ?_
  refine Ends.go (fun t k => castTop (ef_0 m v0 v1 v2 v3 ve) k) ?_
  show Ends p.tables e below G (s₁.setTop (mkF m 0 #[iv v0, iv v1, iv v2, iv v3, iv ve, un, un, un, un, un, un, un, un, un, un, un, un, un, un, un, un, un, un] []))
  obtain ⟨D, hD⟩ : ∃ D, D = own_d := ⟨_, rfl⟩
  have hD0 : D 0 = 0 := by rw [hD]; exact own_d0
  have hDa : ∀ a b, a < 100 → b < 100 → FP.dadd (D a) (D b) = D (a + b) := fun a b h1 h2 => by rw [hD]; exact own_dadd h1 h2
  have hDn : ∀ n, n < 1000 → Jvm.Free.Fl.NoNaN64 (D n) := fun n h => by rw [hD]; exact own_dnn h
  have hDi : ∀ (x : Int32) (n : Nat), x.toInt = (n : Int) → n < 2000 → FP.i2d x = D n := fun x n h h2 => by
    rw [hD]; show FP.i2d x = FP.i2d (Int32.ofNat n)
    rw [show x = Int32.ofNat n from Int32.toInt_inj.mp (by rw [h, Int32.toInt_ofNat_of_lt (by omega)])]
  refine Ends.go (fun _ => XS.iloadN X0.here hx rfl (hb hby at_0) rfl) ?_
  show Ends p.tables e below G (s₁.setTop (mkF m 1 #[iv v0, iv v1, iv v2, iv v3, iv ve, un, un, un, un, un, un, un, un, un, un, un, un, un, un, un, un, un, un] [(.int v0)]))
  refine Ends.go (fun _ => XS.bipush X0.here hx rfl (hb hby at_1)) ?_
  show Ends p.tables e below G (s₁.setTop (mkF m 3 #[iv v0, iv v1, iv v2, iv v3, iv ve, un, un, un, un, un, un, un, un, un, un, un, un, un, un, un, un, un, un] [(.int (15 : Int32)), (.int v0)]))
  refine Ends.go (fun _ => XS.iand X0.here hx rfl (hb hby at_3) rfl) ?_
  show Ends p.tables e below G (s₁.setTop (mkF m 4 #[iv v0, iv v1, iv v2, iv v3, iv ve, un, un, un, un, un, un, un, un, un, un, un, un, un, un, un, un, un, un] [(.int (v0 &&& (15 : Int32)))]))
  obtain ⟨ua0, ha0, hw0⟩ := own_m15 v0
  generalize (v0 &&& (15 : Int32)) = w0 at hw0 ⊢
  show Ends p.tables e below G (s₁.setTop (mkF m 4 #[iv v0, iv v1, iv v2, iv v3, iv ve, un, un, un, un, un, un, un, un, un, un, un, un, un, un, un, un, un, un] [(.int w0)]))
  refine Ends.go (fun _ => XS.istore (g := (mkF m 4 #[iv v0, iv v1, iv v2, iv v3, iv ve, un, un, un, un, un, un, un, un, un, un, un, un, un, un, un, un, un, un] [(.int w0)])) X0.here hx rfl (hb hby at_4) rfl (l' := #[iv v0, iv v1, iv v2, iv v3, iv ve, iv w0, un, un, un, un, un, un, un, un, un, un, un, un, un, un, un, un, un]) rfl) ?_
  show Ends p.tables e below G (s₁.setTop (mkF m 6 #[iv v0, iv v1, iv v2, iv v3, iv ve, iv w0, un, un, un, un, un, un, un, un, un, un, un, un, un, un, un, un, un] []))
  refine Ends.go (fun _ => XS.iloadN X0.here hx rfl (hb hby at_6) rfl) ?_
  show Ends p.tables e below G (s₁.setTop (mkF m 7 #[iv v0, iv v1, iv v2, iv v3, iv ve, iv w0, un, un, un, un, un, un, un, un, un, un, un, un, un, un, un, un, un] [(.int v1)]))
  refine Ends.go (fun _ => XS.bipush X0.here hx rfl (hb hby at_7)) ?_
  show Ends p.tables e below G (s₁.setTop (mkF m 9 #[iv v0, iv v1, iv v2, iv v3, iv ve, iv w0, un, un, un, un, un, un, un, un, un, un, un, un, un, un, un, un, un] [(.int (15 : Int32)), (.int v1)]))
  refine Ends.go (fun _ => XS.iand X0.here hx rfl (hb hby at_9) rfl) ?_
  show Ends p.tables e below G (s₁.setTop (mkF m 10 #[iv v0, iv v1, iv v2, iv v3, iv ve, iv w0, un, un, un, un, un, un, un, un, un, un, un, un, un, un, un, un, un] [(.int (v1 &&& (15 : Int32)))]))
  obtain ⟨ua1, ha1, hw1⟩ := own_m15 v1
  generalize (v1 &&& (15 : Int32)) = w1 at hw1 ⊢
  show Ends p.tables e below G (s₁.setTop (mkF m 10 #[iv v0, iv v1, iv v2, iv v3, iv ve, iv w0, un, un, un, un, un, un, un, un, un, un, un, un, un, un, un, un, un] [(.int w1)]))
  refine Ends.go (fun _ => XS.istore (g := (mkF m 10 #[iv v0, iv v1, iv v2, iv v3, iv ve, iv w0, un, un, un, un, un, un, un, un, un, un, un, un, un, un, un, un, un] [(.int w1)])) X0.here hx rfl (hb hby at_10) rfl (l' := #[iv v0, iv v1, iv v2, iv v3, iv ve, iv w0, iv w1, un, un, un, un, un, un, un, un, un, un, un, un, un, un, un, un]) rfl) ?_
  show Ends p.tables e below G (s₁.setTop (mkF m 12 #[iv v0, iv v1, iv v2, iv v3, iv ve, iv w0, iv w1, un, un, un, un, un, un, un, un, un, un, un, un, un, un, un, un] []))
  refine Ends.go (fun _ => XS.iloadN X0.here hx rfl (hb hby at_12) rfl) ?_
  show Ends p.tables e below G (s₁.setTop (mkF m 13 #[iv v0, iv v1, iv v2, iv v3, iv ve, iv w0, iv w1, un, un, un, un, un, un, un, un, un, un, un, un, un, un, un, un] [(.int v2)]))
  refine Ends.go (fun _ => XS.bipush X0.here hx rfl (hb hby at_13)) ?_
  show Ends p.tables e below G (s₁.setTop (mkF m 15 #[iv v0, iv v1, iv v2, iv v3, iv ve, iv w0, iv w1, un, un, un, un, un, un, un, un, un, un, un, un, un, un, un, un] [(.int (15 : Int32)), (.int v2)]))
  refine Ends.go (fun _ => XS.iand X0.here hx rfl (hb hby at_15) rfl) ?_
  show Ends p.tables e below G (s₁.setTop (mkF m 16 #[iv v0, iv v1, iv v2, iv v3, iv ve, iv w0, iv w1, un, un, un, un, un, un, un, un, un, un, un, un, un, un, un, un] [(.int (v2 &&& (15 : Int32)))]))
  obtain ⟨ua2, ha2, hw2⟩ := own_m15 v2
  generalize (v2 &&& (15 : Int32)) = w2 at hw2 ⊢
  show Ends p.tables e below G (s₁.setTop (mkF m 16 #[iv v0, iv v1, iv v2, iv v3, iv ve, iv w0, iv w1, un, un, un, un, un, un, un, un, un, un, un, un, un, un, un, un] [(.int w2)]))
  refine Ends.go (fun _ => XS.istore (g := (mkF m 16 #[iv v0, iv v1, iv v2, iv v3, iv ve, iv w0, iv w1, un, un, un, un, un, un, un, un, un, un, un, un, un, un, un, un] [(.int w2)])) X0.here hx rfl (hb hby at_16) rfl (l' := #[iv v0, iv v1, iv v2, iv v3, iv ve, iv w0, iv w1, iv w2, un, un, un, un, un, un, un, un, un, un, un, un, un, un, un]) rfl) ?_
  show Ends p.tables e below G (s₁.setTop (mkF m 18 #[iv v0, iv v1, iv v2, iv v3, iv ve, iv w0, iv w1, iv w2, un, un, un, un, un, un, un, un, un, un, un, un, un, un, un] []))
  refine Ends.go (fun _ => XS.iloadN X0.here hx rfl (hb hby at_18) rfl) ?_
  show Ends p.tables e below G (s₁.setTop (mkF m 19 #[iv v0, iv v1, iv v2, iv v3, iv ve, iv w0, iv w1, iv w2, un, un, un, un, un, un, un, un, un, un, un, un, un, un, un] [(.int v3)]))
  refine Ends.go (fun _ => XS.bipush X0.here hx rfl (hb hby at_19)) ?_
  show Ends p.tables e below G (s₁.setTop (mkF m 21 #[iv v0, iv v1, iv v2, iv v3, iv ve, iv w0, iv w1, iv w2, un, un, un, un, un, un, un, un, un, un, un, un, un, un, un] [(.int (15 : Int32)), (.int v3)]))
  refine Ends.go (fun _ => XS.iand X0.here hx rfl (hb hby at_21) rfl) ?_
  show Ends p.tables e below G (s₁.setTop (mkF m 22 #[iv v0, iv v1, iv v2, iv v3, iv ve, iv w0, iv w1, iv w2, un, un, un, un, un, un, un, un, un, un, un, un, un, un, un] [(.int (v3 &&& (15 : Int32)))]))
  obtain ⟨ua3, ha3, hw3⟩ := own_m15 v3
  generalize (v3 &&& (15 : Int32)) = w3 at hw3 ⊢
  show Ends p.tables e below G (s₁.setTop (mkF m 22 #[iv v0, iv v1, iv v2, iv v3, iv ve, iv w0, iv w1, iv w2, un, un, un, un, un, un, un, un, un, un, un, un, un, un, un] [(.int w3)]))
  refine Ends.go (fun _ => XS.istore (g := (mkF m 22 #[iv v0, iv v1, iv v2, iv v3, iv ve, iv w0, iv w1, iv w2, un, un, un, un, un, un, un, un, un, un, un, un, un, un, un] [(.int w3)])) X0.here hx rfl (hb hby at_22) rfl (l' := #[iv v0, iv v1, iv v2, iv v3, iv ve, iv w0, iv w1, iv w2, iv w3, un, un, un, un, un, un, un, un, un, un, un, un, un, un]) rfl) ?_
  show Ends p.tables e below G (s₁.setTop (mkF m 24 #[iv v0, iv v1, iv v2, iv v3, iv ve, iv w0, iv w1, iv w2, iv w3, un, un, un, un, un, un, un, un, un, un, un, un, un, un] []))
  refine Ends.go (fun _ => XS.iload X0.here hx rfl (hb hby at_24) rfl) ?_
  show Ends p.tables e below G (s₁.setTop (mkF m 26 #[iv v0, iv v1, iv v2, iv v3, iv ve, iv w0, iv w1, iv w2, iv w3, un, un, un, un, un, un, un, un, un, un, un, un, un, un] [(.int ve)]))
  refine Ends.go (fun _ => XS.iconst X0.here hx rfl (hb hby at_26)) ?_
  show Ends p.tables e below G (s₁.setTop (mkF m 27 #[iv v0, iv v1, iv v2, iv v3, iv ve, iv w0, iv w1, iv w2, iv w3, un, un, un, un, un, un, un, un, un, un, un, un, un, un] [(.int (3 : Int32)), (.int ve)]))
  refine Ends.go (fun _ => XS.iand X0.here hx rfl (hb hby at_27) rfl) ?_
  show Ends p.tables e below G (s₁.setTop (mkF m 28 #[iv v0, iv v1, iv v2, iv v3, iv ve, iv w0, iv w1, iv w2, iv w3, un, un, un, un, un, un, un, un, un, un, un, un, un, un] [(.int (ve &&& (3 : Int32)))]))
  refine Ends.go (fun _ => XS.iconst X0.here hx rfl (hb hby at_28)) ?_
  show Ends p.tables e below G (s₁.setTop (mkF m 29 #[iv v0, iv v1, iv v2, iv v3, iv ve, iv w0, iv w1, iv w2, iv w3, un, un, un, un, un, un, un, un, un, un, un, un, un, un] [(.int (1 : Int32)), (.int (ve &&& (3 : Int32)))]))
  refine Ends.go (fun _ => XS.iadd X0.here hx rfl (hb hby at_29) rfl) ?_
  show Ends p.tables e below G (s₁.setTop (mkF m 30 #[iv v0, iv v1, iv v2, iv v3, iv ve, iv w0, iv w1, iv w2, iv w3, un, un, un, un, un, un, un, un, un, un, un, un, un, un] [(.int ((ve &&& (3 : Int32)) + (1 : Int32)))]))
  obtain ⟨nn, hn1, hn4, hnn⟩ : ∃ nn : Nat, 1 ≤ nn ∧ nn ≤ 4 ∧ ((ve &&& (3 : Int32)) + (1 : Int32)).toInt = (nn : Int) := by
    have q1 := c_mask ve 3 2 (by decide) (by decide)
    have q2 := c_iadd (ve &&& 3) 1
    have q3 := rng32 ((ve &&& 3) + 1)
    have o1 : (1 : Int32).toInt = 1 := rfl
    exact ⟨1 + (ve.toInt % 4).toNat, by omega, by omega, by omega⟩
  generalize ((ve &&& (3 : Int32)) + (1 : Int32)) = nv at hnn ⊢
  show Ends p.tables e below G (s₁.setTop (mkF m 30 #[iv v0, iv v1, iv v2, iv v3, iv ve, iv w0, iv w1, iv w2, iv w3, un, un, un, un, un, un, un, un, un, un, un, un, un, un] [(.int nv)]))
  refine Ends.go (fun _ => XS.istore (g := (mkF m 30 #[iv v0, iv v1, iv v2, iv v3, iv ve, iv w0, iv w1, iv w2, iv w3, un, un, un, un, un, un, un, un, un, un, un, un, un, un] [(.int nv)])) X0.here hx rfl (hb hby at_30) rfl (l' := #[iv v0, iv v1, iv v2, iv v3, iv ve, iv w0, iv w1, iv w2, iv w3, iv nv, un, un, un, un, un, un, un, un, un, un, un, un, un]) rfl) ?_
  show Ends p.tables e below G (s₁.setTop (mkF m 32 #[iv v0, iv v1, iv v2, iv v3, iv ve, iv w0, iv w1, iv w2, iv w3, iv nv, un, un, un, un, un, un, un, un, un, un, un, un, un] []))
  refine Ends.go (fun _ => XS.iload X0.here hx rfl (hb hby at_32) rfl) ?_
  show Ends p.tables e below G (s₁.setTop (mkF m 34 #[iv v0, iv v1, iv v2, iv v3, iv ve, iv w0, iv w1, iv w2, iv w3, iv nv, un, un, un, un, un, un, un, un, un, un, un, un, un] [(.int ve)]))
  refine Ends.go (fun _ => XS.iconst X0.here hx rfl (hb hby at_34)) ?_
  show Ends p.tables e below G (s₁.setTop (mkF m 35 #[iv v0, iv v1, iv v2, iv v3, iv ve, iv w0, iv w1, iv w2, iv w3, iv nv, un, un, un, un, un, un, un, un, un, un, un, un, un] [(.int (2 : Int32)), (.int ve)]))
  refine Ends.go (fun _ => XS.iushr X0.here hx rfl (hb hby at_35) rfl) ?_
  show Ends p.tables e below G (s₁.setTop (mkF m 36 #[iv v0, iv v1, iv v2, iv v3, iv ve, iv w0, iv w1, iv w2, iv w3, iv nv, un, un, un, un, un, un, un, un, un, un, un, un, un] [(.int ((ve.toUInt32 >>> ((2 : Int32) &&& 31).toUInt32).toInt32))]))
  refine Ends.go (fun _ => XS.sipush X0.here hx rfl (hb hby at_36)) ?_
  show Ends p.tables e below G (s₁.setTop (mkF m 39 #[iv v0, iv v1, iv v2, iv v3, iv ve, iv w0, iv w1, iv w2, iv w3, iv nv, un, un, un, un, un, un, un, un, un, un, un, un, un] [(.int (1025 : Int32)), (.int ((ve.toUInt32 >>> ((2 : Int32) &&& 31).toUInt32).toInt32))]))
  refine Ends.go (fun _ => XS.irem X0.here hx rfl (hb hby at_39) rfl (by decide)) ?_
  show Ends p.tables e below G (s₁.setTop (mkF m 40 #[iv v0, iv v1, iv v2, iv v3, iv ve, iv w0, iv w1, iv w2, iv w3, iv nv, un, un, un, un, un, un, un, un, un, un, un, un, un] [(.int (((ve.toUInt32 >>> ((2 : Int32) &&& 31).toUInt32).toInt32) - (((ve.toUInt32 >>> ((2 : Int32) &&& 31).toUInt32).toInt32) / (1025 : Int32)) * (1025 : Int32)))]))
  obtain ⟨kk, hkk, hk⟩ := own_irem (x := ((ve.toUInt32 >>> ((2 : Int32) &&& 31).toUInt32).toInt32)) (y := 1025) (b := 1025) (by rw [c_iushr ve 2 2 (by decide) (by decide)]; have := Int.emod_nonneg ve.toInt (b := 4294967296) (by decide); have e4 : ((2 ^ 2 : Nat) : Int) = 4 := rfl; omega) rfl (by decide)
  generalize (((ve.toUInt32 >>> ((2 : Int32) &&& 31).toUInt32).toInt32) - (((ve.toUInt32 >>> ((2 : Int32) &&& 31).toUInt32).toInt32) / (1025 : Int32)) * (1025 : Int32)) = kv at hk ⊢
  show Ends p.tables e below G (s₁.setTop (mkF m 40 #[iv v0, iv v1, iv v2, iv v3, iv ve, iv w0, iv w1, iv w2, iv w3, iv nv, un, un, un, un, un, un, un, un, un, un, un, un, un] [(.int kv)]))
  refine Ends.go (fun _ => XS.istore (g := (mkF m 40 #[iv v0, iv v1, iv v2, iv v3, iv ve, iv w0, iv w1, iv w2, iv w3, iv nv, un, un, un, un, un, un, un, un, un, un, un, un, un] [(.int kv)])) X0.here hx rfl (hb hby at_40) rfl (l' := #[iv v0, iv v1, iv v2, iv v3, iv ve, iv w0, iv w1, iv w2, iv w3, iv nv, iv kv, un, un, un, un, un, un, un, un, un, un, un, un]) rfl) ?_
  show Ends p.tables e below G (s₁.setTop (mkF m 42 #[iv v0, iv v1, iv v2, iv v3, iv ve, iv w0, iv w1, iv w2, iv w3, iv nv, iv kv, un, un, un, un, un, un, un, un, un, un, un, un] []))
  refine Ends.go (fun _ => XS.iload X0.here hx rfl (hb hby at_42) rfl) ?_
  show Ends p.tables e below G (s₁.setTop (mkF m 44 #[iv v0, iv v1, iv v2, iv v3, iv ve, iv w0, iv w1, iv w2, iv w3, iv nv, iv kv, un, un, un, un, un, un, un, un, un, un, un, un] [(.int w0)]))
  refine Ends.go (fun _ => XS.istore (g := (mkF m 44 #[iv v0, iv v1, iv v2, iv v3, iv ve, iv w0, iv w1, iv w2, iv w3, iv nv, iv kv, un, un, un, un, un, un, un, un, un, un, un, un] [(.int w0)])) X0.here hx rfl (hb hby at_44) rfl (l' := #[iv v0, iv v1, iv v2, iv v3, iv ve, iv w0, iv w1, iv w2, iv w3, iv nv, iv kv, iv w0, un, un, un, un, un, un, un, un, un, un, un]) rfl) ?_
  show Ends p.tables e below G (s₁.setTop (mkF m 46 #[iv v0, iv v1, iv v2, iv v3, iv ve, iv w0, iv w1, iv w2, iv w3, iv nv, iv kv, iv w0, un, un, un, un, un, un, un, un, un, un, un] []))
  refine Ends.go (fun _ => XS.iload X0.here hx rfl (hb hby at_46) rfl) ?_
  show Ends p.tables e below G (s₁.setTop (mkF m 48 #[iv v0, iv v1, iv v2, iv v3, iv ve, iv w0, iv w1, iv w2, iv w3, iv nv, iv kv, iv w0, un, un, un, un, un, un, un, un, un, un, un] [(.int w0)]))
  refine Ends.go (fun _ => XS.iload X0.here hx rfl (hb hby at_48) rfl) ?_
  show Ends p.tables e below G (s₁.setTop (mkF m 50 #[iv v0, iv v1, iv v2, iv v3, iv ve, iv w0, iv w1, iv w2, iv w3, iv nv, iv kv, iv w0, un, un, un, un, un, un, un, un, un, un, un] [(.int w1), (.int w0)]))
  refine Ends.go (fun _ => XS.iadd X0.here hx rfl (hb hby at_50) rfl) ?_
  show Ends p.tables e below G (s₁.setTop (mkF m 51 #[iv v0, iv v1, iv v2, iv v3, iv ve, iv w0, iv w1, iv w2, iv w3, iv nv, iv kv, iv w0, un, un, un, un, un, un, un, un, un, un, un] [(.int (w0 + w1))]))
  have hc1 : (w0 + w1).toInt = ((ua0 + ua1 : Nat) : Int) := own_add hw0 hw1 (by omega)
  generalize (w0 + w1) = c1v at hc1 ⊢
  show Ends p.tables e below G (s₁.setTop (mkF m 51 #[iv v0, iv v1, iv v2, iv v3, iv ve, iv w0, iv w1, iv w2, iv w3, iv nv, iv kv, iv w0, un, un, un, un, un, un, un, un, un, un, un] [(.int c1v)]))
  refine Ends.go (fun _ => XS.istore (g := (mkF m 51 #[iv v0, iv v1, iv v2, iv v3, iv ve, iv w0, iv w1, iv w2, iv w3, iv nv, iv kv, iv w0, un, un, un, un, un, un, un, un, un, un, un] [(.int c1v)])) X0.here hx rfl (hb hby at_51) rfl (l' := #[iv v0, iv v1, iv v2, iv v3, iv ve, iv w0, iv w1, iv w2, iv w3, iv nv, iv kv, iv w0, iv c1v, un, un, un, un, un, un, un, un, un, un]) rfl) ?_
  show Ends p.tables e below G (s₁.setTop (mkF m 53 #[iv v0, iv v1, iv v2, iv v3, iv ve, iv w0, iv w1, iv w2, iv w3, iv nv, iv kv, iv w0, iv c1v, un, un, un, un, un, un, un, un, un, un] []))
  refine Ends.go (fun _ => XS.iload X0.here hx rfl (hb hby at_53) rfl) ?_
  show Ends p.tables e below G (s₁.setTop (mkF m 55 #[iv v0, iv v1, iv v2, iv v3, iv ve, iv w0, iv w1, iv w2, iv w3, iv nv, iv kv, iv w0, iv c1v, un, un, un, un, un, un, un, un, un, un] [(.int c1v)]))
  refine Ends.go (fun _ => XS.iload X0.here hx rfl (hb hby at_55) rfl) ?_
  show Ends p.tables e below G (s₁.setTop (mkF m 57 #[iv v0, iv v1, iv v2, iv v3, iv ve, iv w0, iv w1, iv w2, iv w3, iv nv, iv kv, iv w0, iv c1v, un, un, un, un, un, un, un, un, un, un] [(.int w2), (.int c1v)]))
  refine Ends.go (fun _ => XS.iadd X0.here hx rfl (hb hby at_57) rfl) ?_
  show Ends p.tables e below G (s₁.setTop (mkF m 58 #[iv v0, iv v1, iv v2, iv v3, iv ve, iv w0, iv w1, iv w2, iv w3, iv nv, iv kv, iv w0, iv c1v, un, un, un, un, un, un, un, un, un, un] [(.int (c1v + w2))]))
  have hc2 : (c1v + w2).toInt = ((ua0 + ua1 + ua2 : Nat) : Int) := own_add hc1 hw2 (by omega)
  generalize (c1v + w2) = c2v at hc2 ⊢
  show Ends p.tables e below G (s₁.setTop (mkF m 58 #[iv v0, iv v1, iv v2, iv v3, iv ve, iv w0, iv w1, iv w2, iv w3, iv nv, iv kv, iv w0, iv c1v, un, un, un, un, un, un, un, un, un, un] [(.int c2v)]))
  refine Ends.go (fun _ => XS.istore (g := (mkF m 58 #[iv v0, iv v1, iv v2, iv v3, iv ve, iv w0, iv w1, iv w2, iv w3, iv nv, iv kv, iv w0, iv c1v, un, un, un, un, un, un, un, un, un, un] [(.int c2v)])) X0.here hx rfl (hb hby at_58) rfl (l' := #[iv v0, iv v1, iv v2, iv v3, iv ve, iv w0, iv w1, iv w2, iv w3, iv nv, iv kv, iv w0, iv c1v, iv c2v, un, un, un, un, un, un, un, un, un]) rfl) ?_
  show Ends p.tables e below G (s₁.setTop (mkF m 60 #[iv v0, iv v1, iv v2, iv v3, iv ve, iv w0, iv w1, iv w2, iv w3, iv nv, iv kv, iv w0, iv c1v, iv c2v, un, un, un, un, un, un, un, un, un] []))
  refine Ends.go (fun _ => XS.iload X0.here hx rfl (hb hby at_60) rfl) ?_
  show Ends p.tables e below G (s₁.setTop (mkF m 62 #[iv v0, iv v1, iv v2, iv v3, iv ve, iv w0, iv w1, iv w2, iv w3, iv nv, iv kv, iv w0, iv c1v, iv c2v, un, un, un, un, un, un, un, un, un] [(.int c2v)]))
  refine Ends.go (fun _ => XS.iload X0.here hx rfl (hb hby at_62) rfl) ?_
  show Ends p.tables e below G (s₁.setTop (mkF m 64 #[iv v0, iv v1, iv v2, iv v3, iv ve, iv w0, iv w1, iv w2, iv w3, iv nv, iv kv, iv w0, iv c1v, iv c2v, un, un, un, un, un, un, un, un, un] [(.int w3), (.int c2v)]))
  refine Ends.go (fun _ => XS.iadd X0.here hx rfl (hb hby at_64) rfl) ?_
  show Ends p.tables e below G (s₁.setTop (mkF m 65 #[iv v0, iv v1, iv v2, iv v3, iv ve, iv w0, iv w1, iv w2, iv w3, iv nv, iv kv, iv w0, iv c1v, iv c2v, un, un, un, un, un, un, un, un, un] [(.int (c2v + w3))]))
  have hc3 : (c2v + w3).toInt = ((ua0 + ua1 + ua2 + ua3 : Nat) : Int) := own_add hc2 hw3 (by omega)
  generalize (c2v + w3) = c3v at hc3 ⊢
  show Ends p.tables e below G (s₁.setTop (mkF m 65 #[iv v0, iv v1, iv v2, iv v3, iv ve, iv w0, iv w1, iv w2, iv w3, iv nv, iv kv, iv w0, iv c1v, iv c2v, un, un, un, un, un, un, un, un, un] [(.int c3v)]))
  have hA : ∀ j, (own_A4 ua0 ua1 ua2 ua3) j ≤ 15 := fun j => match j with | 0 => ha0 | 1 => ha1 | 2 => ha2 | 3 => ha3 | _ + 4 => Nat.zero_le _
  have s1 : own_sm (own_A4 ua0 ua1 ua2 ua3) 1 = ua0 := Nat.zero_add _
  have s2 : own_sm (own_A4 ua0 ua1 ua2 ua3) 2 = ua0 + ua1 := by show 0 + ua0 + ua1 = _; omega
  have s3 : own_sm (own_A4 ua0 ua1 ua2 ua3) 3 = ua0 + ua1 + ua2 := by show 0 + ua0 + ua1 + ua2 = _; omega
  have s4 : own_sm (own_A4 ua0 ua1 ua2 ua3) 4 = ua0 + ua1 + ua2 + ua3 := by show 0 + ua0 + ua1 + ua2 + ua3 = _; omega
  refine Ends.go (fun _ => XS.istore (g := (mkF m 65 #[iv v0, iv v1, iv v2, iv v3, iv ve, iv w0, iv w1, iv w2, iv w3, iv nv, iv kv, iv w0, iv c1v, iv c2v, un, un, un, un, un, un, un, un, un] [(.int c3v)])) X0.here hx rfl (hb hby at_65) rfl (l' := #[iv v0, iv v1, iv v2, iv v3, iv ve, iv w0, iv w1, iv w2, iv w3, iv nv, iv kv, iv w0, iv c1v, iv c2v, iv c3v, un, un, un, un, un, un, un, un]) rfl) ?_
  show Ends p.tables e below G (s₁.setTop (mkF m 67 #[iv v0, iv v1, iv v2, iv v3, iv ve, iv w0, iv w1, iv w2, iv w3, iv nv, iv kv, iv w0, iv c1v, iv c2v, iv c3v, un, un, un, un, un, un, un, un] []))
  refine Ends.go (fun _ => XS.iload X0.here hx rfl (hb hby at_67) rfl) ?_
  show Ends p.tables e below G (s₁.setTop (mkF m 69 #[iv v0, iv v1, iv v2, iv v3, iv ve, iv w0, iv w1, iv w2, iv w3, iv nv, iv kv, iv w0, iv c1v, iv c2v, iv c3v, un, un, un, un, un, un, un, un] [(.int nv)]))
  refine Ends.go (fun _ => XS.iconst X0.here hx rfl (hb hby at_69)) ?_
  show Ends p.tables e below G (s₁.setTop (mkF m 70 #[iv v0, iv v1, iv v2, iv v3, iv ve, iv w0, iv w1, iv w2, iv w3, iv nv, iv kv, iv w0, iv c1v, iv c2v, iv c3v, un, un, un, un, un, un, un, un] [(.int (1 : Int32)), (.int nv)]))
  have tail190 : ∀ (T9 : State) (L9 : List Loc) (h9 : Heap) (tv : Int32) (t : Nat) (wsA : Addr), Stand p l e room_1 s m #[(.int v0), (.int v1), (.int v2), (.int v3), (.int ve)] below meth c T9 L9 (0 + 1) (0 + 4) → T9.heap = h9 → Fr n0 L9 → n0 ≤ h9.size → AF Z h9 wsA .double nn (fun j => .double (D ((own_A4 ua0 ua1 ua2 ua3) j))) → tv.toInt = (t : Int) → t = own_sm (own_A4 ua0 ua1 ua2 ua3) nn → Ends p.tables e below G (T9.setTop (mkF m 190 #[iv v0, iv v1, iv v2, iv v3, iv ve, iv w0, iv w1, iv w2, iv w3, iv nv, iv kv, iv w0, iv c1v, iv c2v, iv c3v, iv tv, rv wsA, un, un, un, un, un, un] [])) := by
    intro T9 L9 h9 tv t wsA X9 e9 N9 sz9 V9 htv ht
    have ht61 : t < 61 := by have := own_sm_le hA nn; omega
    refine Ends.go (fun _ => XS.iload X9.here hx rfl (hb hby at_190) rfl) ?_
    show Ends p.tables e below G (T9.setTop (mkF m 192 #[iv v0, iv v1, iv v2, iv v3, iv ve, iv w0, iv w1, iv w2, iv w3, iv nv, iv kv, iv w0, iv c1v, iv c2v, iv c3v, iv tv, rv wsA, un, un, un, un, un, un] [(.int tv)]))
    by_cases t0 : t = 0
    · refine Ends.go (fun _ => XS.ifNo X9.here hx rfl (hb hby at_192) rfl ((if0 _ _).trans (teq ((own_eqn htv (b := 0) rfl).mpr t0 : tv = (0 : Int32))).2)) ?_
      show Ends p.tables e below G (T9.setTop (mkF m 195 #[iv v0, iv v1, iv v2, iv v3, iv ve, iv w0, iv w1, iv w2, iv w3, iv nv, iv kv, iv w0, iv c1v, iv c2v, iv c3v, iv tv, rv wsA, un, un, un, un, un, un] []))
      refine Ends.go (fun _ => XS.iconst X9.here hx rfl (hb hby at_195)) ?_
      show Ends p.tables e below G (T9.setTop (mkF m 196 #[iv v0, iv v1, iv v2, iv v3, iv ve, iv w0, iv w1, iv w2, iv w3, iv nv, iv kv, iv w0, iv c1v, iv c2v, iv c3v, iv tv, rv wsA, un, un, un, un, un, un] [(.int (1 : Int32))]))
      refine own_finS (t := .boolean) X9 hx Bd.returns (by simp) Bd.notSynchronized (hb hby at_196) (Q := (Q0 Z v0 v1 v2 v3 ve h0 n0)) hG (by decide) (by decide) ?_
      show (Q0 Z v0 v1 v2 v3 ve h0 n0) _ T9.heap _
      rw [e9]
      exact ⟨rfl, N9⟩
    · obtain ⟨pl, hpl⟩ : ∃ pl, FP.ddiv (D kk) 4652218415073722368 = pl := ⟨_, rfl⟩
      have hpl2 : own_pl kk = pl := by rw [← hpl, hD]; rfl
      obtain ⟨tg, htg⟩ : ∃ tg, FP.dmul pl (D t) = tg := ⟨_, rfl⟩
      have htn : Jvm.Free.Fl.NoNaN64 tg := by rw [← htg, ← hpl2, hD]; exact own_tnn hkk ht61 t0
      have hcm : ∀ c, c < 61 → (0 < cmpValue (FP.dcmp (D c) tg) .l ↔ kk * t < 1024 * c) := fun c hc => by rw [← htg, ← hpl2, hD]; exact own_cmp hkk ht61 t0 hc
      refine Ends.go (fun _ => XS.ifYes X9.here hx rfl (pc0 := 192) (pc' := 197) rfl (hb hby at_192) rfl ((if0 _ _).trans (feq (fun z => t0 ((own_eqn htv (b := 0) rfl).mp z) : ¬ (tv = (0 : Int32)))).2) (by decide) (by decide)) ?_
      show Ends p.tables e below G (T9.setTop (mkF m 197 #[iv v0, iv v1, iv v2, iv v3, iv ve, iv w0, iv w1, iv w2, iv w3, iv nv, iv kv, iv w0, iv c1v, iv c2v, iv c3v, iv tv, rv wsA, un, un, un, un, un, un] []))
      refine Ends.go (fun _ => XS.iload X9.here hx rfl (hb hby at_197) rfl) ?_
      show Ends p.tables e below G (T9.setTop (mkF m 199 #[iv v0, iv v1, iv v2, iv v3, iv ve, iv w0, iv w1, iv w2, iv w3, iv nv, iv kv, iv w0, iv c1v, iv c2v, iv c3v, iv tv, rv wsA, un, un, un, un, un, un] [(.int kv)]))
      refine Ends.go (fun _ => XS.i2dS X9.here hx rfl (hb hby at_199) rfl (hDi kv kk hk (by omega))) ?_
      show Ends p.tables e below G (T9.setTop (mkF m 200 #[iv v0, iv v1, iv v2, iv v3, iv ve, iv w0, iv w1, iv w2, iv w3, iv nv, iv kv, iv w0, iv c1v, iv c2v, iv c3v, iv tv, rv wsA, un, un, un, un, un, un] [(.double (D kk))]))
      refine Ends.go (fun _ => X9.ldc2DoubleC hx hown (mvT hZ (hw _ (List.mem_of_getElem? (i := 1) rfl))) (g := (mkF m 200 #[iv v0, iv v1, iv v2, iv v3, iv ve, iv w0, iv w1, iv w2, iv w3, iv nv, iv kv, iv w0, iv c1v, iv c2v, iv c3v, iv tv, rv wsA, un, un, un, un, un, un] [(.double (D kk))])) rfl (hb hby at_200) _) ?_
      show Ends p.tables e below G (T9.setTop (mkF m 203 #[iv v0, iv v1, iv v2, iv v3, iv ve, iv w0, iv w1, iv w2, iv w3, iv nv, iv kv, iv w0, iv c1v, iv c2v, iv c3v, iv tv, rv wsA, un, un, un, un, un, un] [(.double (4652218415073722368 : UInt64)), (.double (D kk))]))
      refine Ends.go (fun _ => XS.ddivS X9.here hx rfl (hb hby at_203) rfl (by rw [hpl, ← hpl2]; exact own_plnn hkk) hpl) ?_
      show Ends p.tables e below G (T9.setTop (mkF m 204 #[iv v0, iv v1, iv v2, iv v3, iv ve, iv w0, iv w1, iv w2, iv w3, iv nv, iv kv, iv w0, iv c1v, iv c2v, iv c3v, iv tv, rv wsA, un, un, un, un, un, un] [(.double pl)]))
      refine Ends.go (fun _ => XS.dstore (g := (mkF m 204 #[iv v0, iv v1, iv v2, iv v3, iv ve, iv w0, iv w1, iv w2, iv w3, iv nv, iv kv, iv w0, iv c1v, iv c2v, iv c3v, iv tv, rv wsA, un, un, un, un, un, un] [(.double pl)])) X9.here hx rfl (hb hby at_204) rfl (l' := #[iv v0, iv v1, iv v2, iv v3, iv ve, iv w0, iv w1, iv w2, iv w3, iv nv, iv kv, iv w0, iv c1v, iv c2v, iv c3v, iv tv, rv wsA, .val (.double pl), .second, un, un, un, un]) rfl) ?_
      show Ends p.tables e below G (T9.setTop (mkF m 206 #[iv v0, iv v1, iv v2, iv v3, iv ve, iv w0, iv w1, iv w2, iv w3, iv nv, iv kv, iv w0, iv c1v, iv c2v, iv c3v, iv tv, rv wsA, .val (.double pl), .second, un, un, un, un] []))
      refine Ends.go (fun _ => XS.iload X9.here hx rfl (hb hby at_206) rfl) ?_
      show Ends p.tables e below G (T9.setTop (mkF m 208 #[iv v0, iv v1, iv v2, iv v3, iv ve, iv w0, iv w1, iv w2, iv w3, iv nv, iv kv, iv w0, iv c1v, iv c2v, iv c3v, iv tv, rv wsA, .val (.double pl), .second, un, un, un, un] [(.int kv)]))
      refine Ends.go (fun _ => XS.i2l X9.here hx rfl (hb hby at_208) rfl) ?_
      show Ends p.tables e below G (T9.setTop (mkF m 209 #[iv v0, iv v1, iv v2, iv v3, iv ve, iv w0, iv w1, iv w2, iv w3, iv nv, iv kv, iv w0, iv c1v, iv c2v, iv c3v, iv tv, rv wsA, .val (.double pl), .second, un, un, un, un] [(.long (kv.toInt64))]))
      refine Ends.go (fun _ => XS.iload X9.here hx rfl (hb hby at_209) rfl) ?_
      show Ends p.tables e below G (T9.setTop (mkF m 211 #[iv v0, iv v1, iv v2, iv v3, iv ve, iv w0, iv w1, iv w2, iv w3, iv nv, iv kv, iv w0, iv c1v, iv c2v, iv c3v, iv tv, rv wsA, .val (.double pl), .second, un, un, un, un] [(.int tv), (.long (kv.toInt64))]))
      refine Ends.go (fun _ => XS.i2l X9.here hx rfl (hb hby at_211) rfl) ?_
      show Ends p.tables e below G (T9.setTop (mkF m 212 #[iv v0, iv v1, iv v2, iv v3, iv ve, iv w0, iv w1, iv w2, iv w3, iv nv, iv kv, iv w0, iv c1v, iv c2v, iv c3v, iv tv, rv wsA, .val (.double pl), .second, un, un, un, un] [(.long (tv.toInt64)), (.long (kv.toInt64))]))
      refine Ends.go (fun _ => XS.lmul X9.here hx rfl (hb hby at_212) rfl) ?_
      show Ends p.tables e below G (T9.setTop (mkF m 213 #[iv v0, iv v1, iv v2, iv v3, iv ve, iv w0, iv w1, iv w2, iv w3, iv nv, iv kv, iv w0, iv c1v, iv c2v, iv c3v, iv tv, rv wsA, .val (.double pl), .second, un, un, un, un] [(.long ((kv.toInt64) * (tv.toInt64)))]))
      have hkt : ((kv.toInt64) * (tv.toInt64)).toInt = ((kk * t : Nat) : Int) := by
        have q1 := c_lmul kv.toInt64 tv.toInt64
        have q2 := rng64 (kv.toInt64 * tv.toInt64)
        rw [c_i2l, c_i2l, hk, htv, ← Int.natCast_mul] at q1
        have q3 : kk * t ≤ 1024 * 60 := Nat.mul_le_mul (by omega) (by omega)
        omega
      generalize ((kv.toInt64) * (tv.toInt64)) = ktv at hkt ⊢
      show Ends p.tables e below G (T9.setTop (mkF m 213 #[iv v0, iv v1, iv v2, iv v3, iv ve, iv w0, iv w1, iv w2, iv w3, iv nv, iv kv, iv w0, iv c1v, iv c2v, iv c3v, iv tv, rv wsA, .val (.double pl), .second, un, un, un, un] [(.long ktv)]))
      refine Ends.go (fun _ => XS.lstore (g := (mkF m 213 #[iv v0, iv v1, iv v2, iv v3, iv ve, iv w0, iv w1, iv w2, iv w3, iv nv, iv kv, iv w0, iv c1v, iv c2v, iv c3v, iv tv, rv wsA, .val (.double pl), .second, un, un, un, un] [(.long ktv)])) X9.here hx rfl (hb hby at_213) rfl (l' := #[iv v0, iv v1, iv v2, iv v3, iv ve, iv w0, iv w1, iv w2, iv w3, iv nv, iv kv, iv w0, iv c1v, iv c2v, iv c3v, iv tv, rv wsA, .val (.double pl), .second, .val (.long ktv), .second, un, un]) rfl) ?_
      show Ends p.tables e below G (T9.setTop (mkF m 215 #[iv v0, iv v1, iv v2, iv v3, iv ve, iv w0, iv w1, iv w2, iv w3, iv nv, iv kv, iv w0, iv c1v, iv c2v, iv c3v, iv tv, rv wsA, .val (.double pl), .second, .val (.long ktv), .second, un, un] []))
      refine Ends.go (fun _ => XS.iload X9.here hx rfl (hb hby at_215) rfl) ?_
      show Ends p.tables e below G (T9.setTop (mkF m 217 #[iv v0, iv v1, iv v2, iv v3, iv ve, iv w0, iv w1, iv w2, iv w3, iv nv, iv kv, iv w0, iv c1v, iv c2v, iv c3v, iv tv, rv wsA, .val (.double pl), .second, .val (.long ktv), .second, un, un] [(.int nv)]))
      refine Ends.go (fun _ => XS.iconst X9.here hx rfl (hb hby at_217)) ?_
      show Ends p.tables e below G (T9.setTop (mkF m 218 #[iv v0, iv v1, iv v2, iv v3, iv ve, iv w0, iv w1, iv w2, iv w3, iv nv, iv kv, iv w0, iv c1v, iv c2v, iv c3v, iv tv, rv wsA, .val (.double pl), .second, .val (.long ktv), .second, un, un] [(.int (1 : Int32)), (.int nv)]))
      refine Ends.go (fun _ => XS.isub X9.here hx rfl (hb hby at_218) rfl) ?_
      show Ends p.tables e below G (T9.setTop (mkF m 219 #[iv v0, iv v1, iv v2, iv v3, iv ve, iv w0, iv w1, iv w2, iv w3, iv nv, iv kv, iv w0, iv c1v, iv c2v, iv c3v, iv tv, rv wsA, .val (.double pl), .second, .val (.long ktv), .second, un, un] [(.int (nv - (1 : Int32)))]))
      have hr0 : (nv - 1).toInt = ((nn - 1 : Nat) : Int) := by
        have q1 := c_isub nv 1
        have q2 := rng32 (nv - 1)
        have o1 : (1 : Int32).toInt = 1 := rfl
        omega
      generalize (nv - (1 : Int32)) = rf0 at hr0 ⊢
      show Ends p.tables e below G (T9.setTop (mkF m 219 #[iv v0, iv v1, iv v2, iv v3, iv ve, iv w0, iv w1, iv w2, iv w3, iv nv, iv kv, iv w0, iv c1v, iv c2v, iv c3v, iv tv, rv wsA, .val (.double pl), .second, .val (.long ktv), .second, un, un] [(.int rf0)]))
      refine Ends.go (fun _ => XS.istore (g := (mkF m 219 #[iv v0, iv v1, iv v2, iv v3, iv ve, iv w0, iv w1, iv w2, iv w3, iv nv, iv kv, iv w0, iv c1v, iv c2v, iv c3v, iv tv, rv wsA, .val (.double pl), .second, .val (.long ktv), .second, un, un] [(.int rf0)])) X9.here hx rfl (hb hby at_219) rfl (l' := #[iv v0, iv v1, iv v2, iv v3, iv ve, iv w0, iv w1, iv w2, iv w3, iv nv, iv kv, iv w0, iv c1v, iv c2v, iv c3v, iv tv, rv wsA, .val (.double pl), .second, .val (.long ktv), .second, iv rf0, un]) rfl) ?_
      show Ends p.tables e below G (T9.setTop (mkF m 221 #[iv v0, iv v1, iv v2, iv v3, iv ve, iv w0, iv w1, iv w2, iv w3, iv nv, iv kv, iv w0, iv c1v, iv c2v, iv c3v, iv tv, rv wsA, .val (.double pl), .second, .val (.long ktv), .second, iv rf0, un] []))
      have at281 : ∀ (rfv : Int32) (rf : Nat), rfv.toInt = (rf : Int) → own_CH (own_A4 ua0 ua1 ua2 ua3) nn (kk * t) 0 rf → Ends p.tables e below G (T9.setTop (mkF m 281 #[iv v0, iv v1, iv v2, iv v3, iv ve, iv w0, iv w1, iv w2, iv w3, iv nv, iv kv, iv w0, iv c1v, iv c2v, iv c3v, iv tv, rv wsA, .val (.double pl), .second, .val (.long ktv), .second, iv rfv, un] [])) := by
        intro rfv rf hrf hch
        obtain ⟨T1, h1, X1, e1, E1, A1, D1, -, st1⟩ := newO X9 hx hZ hown (hw _ (List.mem_of_getElem? (i := 3) rfl)) (hw _ (List.mem_of_getElem? (i := 4) rfl)) (hw _ (List.mem_of_getElem? (i := 5) rfl)) e9 (g := (mkF m 281 #[iv v0, iv v1, iv v2, iv v3, iv ve, iv w0, iv w1, iv w2, iv w3, iv nv, iv kv, iv w0, iv c1v, iv c2v, iv c3v, iv tv, rv wsA, .val (.double pl), .second, .val (.long ktv), .second, iv rfv, un] [])) rfl (hb hby at_281) (by decide) (by decide)
        obtain ⟨b1, g1⟩ : ∃ z, z = h9.size := ⟨_, rfl⟩
        rw [← g1] at A1 D1 st1
        have g_b1 : n0 ≤ b1 := Nat.le_trans sz9 (Nat.le_of_eq g1.symm)
        have ne_wsA_b1 : wsA ≠ b1 := Nat.ne_of_lt (Nat.lt_of_lt_of_le (AF.lt V9) (Nat.le_of_eq g1.symm))
        have f1_V_wsA := AF.ext V9 E1
        have sz1 := Nat.le_trans sz9 E1.1
        have F1_cumulative : Fld Z h1 b1 "com/example/bitstrata/bitstrata/bench/Weights" "cumulative" "[D" .null := D1 (Or.inr (hw _ (List.mem_of_getElem? (i := 13) rfl))) (ty := (.array .double)) (by decide)
        refine Ends.go (fun _ => st1 _) ?_
        show Ends p.tables e below G (T1.setTop (mkF m 284 #[iv v0, iv v1, iv v2, iv v3, iv ve, iv w0, iv w1, iv w2, iv w3, iv nv, iv kv, iv w0, iv c1v, iv c2v, iv c3v, iv tv, rv wsA, .val (.double pl), .second, .val (.long ktv), .second, iv rfv, un] [(.ref b1)]))
        refine Ends.go (fun _ => XS.dup X1.here hx rfl (hb hby at_284) rfl rfl) ?_
        show Ends p.tables e below G (T1.setTop (mkF m 285 #[iv v0, iv v1, iv v2, iv v3, iv ve, iv w0, iv w1, iv w2, iv w3, iv nv, iv kv, iv w0, iv c1v, iv c2v, iv c3v, iv tv, rv wsA, .val (.double pl), .second, .val (.long ktv), .second, iv rfv, un] [(.ref b1), (.ref b1)]))
        refine Ends.go (fun _ => XS.aload X1.here hx rfl (hb hby at_285) rfl rfl) ?_
        show Ends p.tables e below G (T1.setTop (mkF m 287 #[iv v0, iv v1, iv v2, iv v3, iv ve, iv w0, iv w1, iv w2, iv w3, iv nv, iv kv, iv w0, iv c1v, iv c2v, iv c3v, iv tv, rv wsA, .val (.double pl), .second, .val (.long ktv), .second, iv rfv, un] [(.ref wsA), (.ref b1), (.ref b1)]))
        obtain ⟨_, _, ⟨T2, L2, k2, n2⟩, -, X2, ⟨Lc2, hQ2, l2, y2, z2⟩, st2⟩ := X1.specialBack hx (y := (⟨"com/example/bitstrata/bitstrata/bench/Weights", "<init>", "([D)V"⟩ : MethodName)) rfl hown (mvT hZ (hw _ (List.mem_of_getElem? (i := 6) rfl))) (mvT hZ (hw _ (List.mem_of_getElem? (i := 7) rfl))) (mvT hZ (hw _ (List.mem_of_getElem? (i := 8) rfl))) (by decide) (backOf (W := 1) (rm1 l Z a0 hw [] b1 wsA nn (own_A4 ua0 ua1 ua2 ua3) D h1 n0 sz1 A1 F1_cumulative f1_V_wsA g_b1 hn4 hA hD0 hDa hDn) hZ (hw _ (List.mem_of_getElem? (i := 8) rfl)) (hw _ (List.mem_of_getElem? (i := 5) rfl)) (by decide) (by decide)) (g := (mkF m 287 #[iv v0, iv v1, iv v2, iv v3, iv ve, iv w0, iv w1, iv w2, iv w3, iv nv, iv kv, iv w0, iv c1v, iv c2v, iv c3v, iv tv, rv wsA, .val (.double pl), .second, .val (.long ktv), .second, iv rfv, un] [(.ref wsA), (.ref b1), (.ref b1)])) rfl (by rw [hml]; rfl) (Steps.refl _) (a := b1) (argsL := [(.ref wsA)]) (rest := [(.ref b1)]) (lenOf pd_1 rfl) rfl (by show 2 * 0 + _ ≤ _; exact Nat.le_of_eq rfl) (hb hby at_287) (fun _ _ => ⟨rfl, e1, (by decide : ((0 + 1) + 1) + 1 ≤ _), (by decide : ((0 + 4) + 1) + 4 ≤ _)⟩)
        dsimp only [Pt.U, Pt.locs, Pt.cells, Pt.slots] at X2 l2 y2 z2 st2 hQ2
        subst l2 y2 z2
        obtain ⟨rfl, N2q, szq2, Ei2, cu2, Fi2, Vi2⟩ := hQ2
        have N2 := Fr.app N9 N2q
        refine Ends.go (fun _ => st2.trans) ?_
        show Ends p.tables e below G (T2.setTop (mkF m 290 #[iv v0, iv v1, iv v2, iv v3, iv ve, iv w0, iv w1, iv w2, iv w3, iv nv, iv kv, iv w0, iv c1v, iv c2v, iv c3v, iv tv, rv wsA, .val (.double pl), .second, .val (.long ktv), .second, iv rfv, un] [(.ref b1)]))
        refine Ends.go (fun _ => XS.astore (g := (mkF m 290 #[iv v0, iv v1, iv v2, iv v3, iv ve, iv w0, iv w1, iv w2, iv w3, iv nv, iv kv, iv w0, iv c1v, iv c2v, iv c3v, iv tv, rv wsA, .val (.double pl), .second, .val (.long ktv), .second, iv rfv, un] [(.ref b1)])) X2.here hx rfl (hb hby at_290) rfl rfl (l' := #[iv v0, iv v1, iv v2, iv v3, iv ve, iv w0, iv w1, iv w2, iv w3, iv nv, iv kv, iv w0, iv c1v, iv c2v, iv c3v, iv tv, rv wsA, .val (.double pl), .second, .val (.long ktv), .second, iv rfv, rv b1]) rfl) ?_
        show Ends p.tables e below G (T2.setTop (mkF m 292 #[iv v0, iv v1, iv v2, iv v3, iv ve, iv w0, iv w1, iv w2, iv w3, iv nv, iv kv, iv w0, iv c1v, iv c2v, iv c3v, iv tv, rv wsA, .val (.double pl), .second, .val (.long ktv), .second, iv rfv, rv b1] []))
        refine Ends.go (fun _ => XS.aload X2.here hx rfl (hb hby at_292) rfl rfl) ?_
        show Ends p.tables e below G (T2.setTop (mkF m 294 #[iv v0, iv v1, iv v2, iv v3, iv ve, iv w0, iv w1, iv w2, iv w3, iv nv, iv kv, iv w0, iv c1v, iv c2v, iv c3v, iv tv, rv wsA, .val (.double pl), .second, .val (.long ktv), .second, iv rfv, rv b1] [(.ref b1)]))
        refine Ends.go (fun _ => XS.dload X2.here hx rfl (hb hby at_294) rfl) ?_
        show Ends p.tables e below G (T2.setTop (mkF m 296 #[iv v0, iv v1, iv v2, iv v3, iv ve, iv w0, iv w1, iv w2, iv w3, iv nv, iv kv, iv w0, iv c1v, iv c2v, iv c3v, iv tv, rv wsA, .val (.double pl), .second, .val (.long ktv), .second, iv rfv, rv b1] [(.double pl), (.ref b1)]))
        obtain ⟨cq3, kq3, q3a, q3b, q3c⟩ := isOf hZ rfl Ei2
        obtain ⟨_, _, ⟨T3, L3, k3, n3⟩, -, X3, ⟨Lc3, hQ3, l3, y3, z3⟩, st3⟩ := X2.virtualBack hx (y := (⟨"com/example/bitstrata/bitstrata/bench/Weights", "at", "(D)I"⟩ : MethodName)) (z := (⟨"com/example/bitstrata/bitstrata/bench/Weights", "at", "(D)I"⟩ : MethodName)) hown (mvT hZ (hw _ (List.mem_of_getElem? (i := 14) rfl))) (mvT hZ (hw _ (List.mem_of_getElem? (i := 15) rfl))) (notFace_of_selects (args := #[]) (mvT hZ (hw _ (List.mem_of_getElem? (i := 17) rfl)))) (mvT hZ (hw _ (List.mem_of_getElem? (i := 17) rfl))) (mvT hZ (hw _ (List.mem_of_getElem? (i := 16) rfl))) (by decide) (backOf (W := 0) (rm3 l Z a0 hw [] b1 pl kk cu2 nn (own_A4 ua0 ua1 ua2 ua3) t D tg T2.heap n0 szq2 Ei2 Fi2 Vi2 ⟨by omega, hn4⟩ hA ht htg htn hcm) hZ (hw _ (List.mem_of_getElem? (i := 18) rfl)) (hw _ (List.mem_of_getElem? (i := 5) rfl)) (by decide) (by decide)) q3a q3c (g := (mkF m 296 #[iv v0, iv v1, iv v2, iv v3, iv ve, iv w0, iv w1, iv w2, iv w3, iv nv, iv kv, iv w0, iv c1v, iv c2v, iv c3v, iv tv, rv wsA, .val (.double pl), .second, .val (.long ktv), .second, iv rfv, rv b1] [(.double pl), (.ref b1)])) rfl (by rw [hml]; rfl) (Steps.refl _) (argsL := [(.double pl)]) (rest := []) (lenOf pd_2 rfl) rfl (by show 2 * 0 + _ ≤ _; exact Nat.le_of_eq rfl) (hb hby at_296) (fun _ _ => ⟨rfl, rfl, (by decide : (((0 + 1) + 1) + 1) + 0 ≤ _), (by decide : (((0 + 4) + 1) + 4) + 0 ≤ _)⟩)
        dsimp only [Pt.U, Pt.locs, Pt.cells, Pt.slots] at X3 l3 y3 z3 st3 hQ3
        subst l3 y3 z3
        obtain ⟨ri3, rq3, rfl, N3q, e3, hq3, hi13, hi23, hi33⟩ := hQ3
        have N3 := Fr.app N2 N3q
        refine Ends.go (fun _ => st3.trans) ?_
        show Ends p.tables e below G (T3.setTop (mkF m 299 #[iv v0, iv v1, iv v2, iv v3, iv ve, iv w0, iv w1, iv w2, iv w3, iv nv, iv kv, iv w0, iv c1v, iv c2v, iv c3v, iv tv, rv wsA, .val (.double pl), .second, .val (.long ktv), .second, iv rfv, rv b1] [(.int rq3)]))
        refine Ends.go (fun _ => XS.iload X3.here hx rfl (hb hby at_299) rfl) ?_
        show Ends p.tables e below G (T3.setTop (mkF m 301 #[iv v0, iv v1, iv v2, iv v3, iv ve, iv w0, iv w1, iv w2, iv w3, iv nv, iv kv, iv w0, iv c1v, iv c2v, iv c3v, iv tv, rv wsA, .val (.double pl), .second, .val (.long ktv), .second, iv rfv, rv b1] [(.int rfv), (.int rq3)]))
        refine Ends.go (fun _ => XS.icmpNo X3.here hx rfl (hb hby at_301) rfl (teq ((own_eqn hq3 hrf).mpr (own_uniq hch ⟨hi13, hi23, hi33⟩) : rq3 = rfv)).2) ?_
        show Ends p.tables e below G (T3.setTop (mkF m 304 #[iv v0, iv v1, iv v2, iv v3, iv ve, iv w0, iv w1, iv w2, iv w3, iv nv, iv kv, iv w0, iv c1v, iv c2v, iv c3v, iv tv, rv wsA, .val (.double pl), .second, .val (.long ktv), .second, iv rfv, rv b1] []))
        refine Ends.go (fun _ => XS.iconst X3.here hx rfl (hb hby at_304)) ?_
        show Ends p.tables e below G (T3.setTop (mkF m 305 #[iv v0, iv v1, iv v2, iv v3, iv ve, iv w0, iv w1, iv w2, iv w3, iv nv, iv kv, iv w0, iv c1v, iv c2v, iv c3v, iv tv, rv wsA, .val (.double pl), .second, .val (.long ktv), .second, iv rfv, rv b1] [(.int (1 : Int32))]))
        refine Ends.go (fun _ => XS.goto X3.here hx rfl (pc0 := 305) (pc' := 309) rfl (hb hby at_305) (by decide) (by decide)) ?_
        show Ends p.tables e below G (T3.setTop (mkF m 309 #[iv v0, iv v1, iv v2, iv v3, iv ve, iv w0, iv w1, iv w2, iv w3, iv nv, iv kv, iv w0, iv c1v, iv c2v, iv c3v, iv tv, rv wsA, .val (.double pl), .second, .val (.long ktv), .second, iv rfv, rv b1] [(.int (1 : Int32))]))
        refine own_finS (t := .boolean) X3 hx Bd.returns (by simp) Bd.notSynchronized (hb hby at_309) (Q := (Q0 Z v0 v1 v2 v3 ve h0 n0)) hG (by decide) (by decide) ?_
        show (Q0 Z v0 v1 v2 v3 ve h0 n0) _ T3.heap _
        rw [e3]
        exact ⟨rfl, N3⟩
      have at265 : ∀ (rfv : Int32) (rf : Nat), rfv.toInt = (rf : Int) → own_CH (own_A4 ua0 ua1 ua2 ua3) nn (kk * t) 1 rf → Ends p.tables e below G (T9.setTop (mkF m 265 #[iv v0, iv v1, iv v2, iv v3, iv ve, iv w0, iv w1, iv w2, iv w3, iv nv, iv kv, iv w0, iv c1v, iv c2v, iv c3v, iv tv, rv wsA, .val (.double pl), .second, .val (.long ktv), .second, iv rfv, un] [])) := by
        intro rfv rf hrf hch
        refine Ends.go (fun _ => X9.ldc2Long hx hown (mvT hZ (hw _ (List.mem_of_getElem? (i := 2) rfl))) (g := (mkF m 265 #[iv v0, iv v1, iv v2, iv v3, iv ve, iv w0, iv w1, iv w2, iv w3, iv nv, iv kv, iv w0, iv c1v, iv c2v, iv c3v, iv tv, rv wsA, .val (.double pl), .second, .val (.long ktv), .second, iv rfv, un] [])) rfl (hb hby at_265) _) ?_
        show Ends p.tables e below G (T9.setTop (mkF m 268 #[iv v0, iv v1, iv v2, iv v3, iv ve, iv w0, iv w1, iv w2, iv w3, iv nv, iv kv, iv w0, iv c1v, iv c2v, iv c3v, iv tv, rv wsA, .val (.double pl), .second, .val (.long ktv), .second, iv rfv, un] [(.long (1024 : Int64))]))
        refine Ends.go (fun _ => XS.iload X9.here hx rfl (hb hby at_268) rfl) ?_
        show Ends p.tables e below G (T9.setTop (mkF m 270 #[iv v0, iv v1, iv v2, iv v3, iv ve, iv w0, iv w1, iv w2, iv w3, iv nv, iv kv, iv w0, iv c1v, iv c2v, iv c3v, iv tv, rv wsA, .val (.double pl), .second, .val (.long ktv), .second, iv rfv, un] [(.int w0), (.long (1024 : Int64))]))
        refine Ends.go (fun _ => XS.i2l X9.here hx rfl (hb hby at_270) rfl) ?_
        show Ends p.tables e below G (T9.setTop (mkF m 271 #[iv v0, iv v1, iv v2, iv v3, iv ve, iv w0, iv w1, iv w2, iv w3, iv nv, iv kv, iv w0, iv c1v, iv c2v, iv c3v, iv tv, rv wsA, .val (.double pl), .second, .val (.long ktv), .second, iv rfv, un] [(.long (w0.toInt64)), (.long (1024 : Int64))]))
        refine Ends.go (fun _ => XS.lmul X9.here hx rfl (hb hby at_271) rfl) ?_
        show Ends p.tables e below G (T9.setTop (mkF m 272 #[iv v0, iv v1, iv v2, iv v3, iv ve, iv w0, iv w1, iv w2, iv w3, iv nv, iv kv, iv w0, iv c1v, iv c2v, iv c3v, iv tv, rv wsA, .val (.double pl), .second, .val (.long ktv), .second, iv rfv, un] [(.long ((1024 : Int64) * (w0.toInt64)))]))
        refine Ends.go (fun _ => XS.lload X9.here hx rfl (hb hby at_272) rfl) ?_
        show Ends p.tables e below G (T9.setTop (mkF m 274 #[iv v0, iv v1, iv v2, iv v3, iv ve, iv w0, iv w1, iv w2, iv w3, iv nv, iv kv, iv w0, iv c1v, iv c2v, iv c3v, iv tv, rv wsA, .val (.double pl), .second, .val (.long ktv), .second, iv rfv, un] [(.long ktv), (.long ((1024 : Int64) * (w0.toInt64)))]))
        refine Ends.go (fun _ => XS.lcmp X9.here hx rfl (hb hby at_274) rfl) ?_
        show Ends p.tables e below G (T9.setTop (mkF m 275 #[iv v0, iv v1, iv v2, iv v3, iv ve, iv w0, iv w1, iv w2, iv w3, iv nv, iv kv, iv w0, iv c1v, iv c2v, iv c3v, iv tv, rv wsA, .val (.double pl), .second, .val (.long ktv), .second, iv rfv, un] [(.int (lcmpW ((1024 : Int64) * (w0.toInt64)) ktv))]))
        have hl := own_l1024 hw0 (by omega)
        by_cases k2 : kk * t < 1024 * (ua0)
        · refine Ends.go (fun _ => XS.ifNo X9.here hx rfl (hb hby at_275) rfl ((if0 _ _).trans (tlt ((own_lgt hl hkt).mpr k2 : (0 : Int32) < (lcmpW ((1024 : Int64) * (w0.toInt64)) ktv))).2.2.2)) ?_
          show Ends p.tables e below G (T9.setTop (mkF m 278 #[iv v0, iv v1, iv v2, iv v3, iv ve, iv w0, iv w1, iv w2, iv w3, iv nv, iv kv, iv w0, iv c1v, iv c2v, iv c3v, iv tv, rv wsA, .val (.double pl), .second, .val (.long ktv), .second, iv rfv, un] []))
          refine Ends.go (fun _ => XS.iconst X9.here hx rfl (hb hby at_278)) ?_
          show Ends p.tables e below G (T9.setTop (mkF m 279 #[iv v0, iv v1, iv v2, iv v3, iv ve, iv w0, iv w1, iv w2, iv w3, iv nv, iv kv, iv w0, iv c1v, iv c2v, iv c3v, iv tv, rv wsA, .val (.double pl), .second, .val (.long ktv), .second, iv rfv, un] [(.int (0 : Int32))]))
          refine Ends.go (fun _ => XS.istore (g := (mkF m 279 #[iv v0, iv v1, iv v2, iv v3, iv ve, iv w0, iv w1, iv w2, iv w3, iv nv, iv kv, iv w0, iv c1v, iv c2v, iv c3v, iv tv, rv wsA, .val (.double pl), .second, .val (.long ktv), .second, iv rfv, un] [(.int (0 : Int32))])) X9.here hx rfl (hb hby at_279) rfl (l' := #[iv v0, iv v1, iv v2, iv v3, iv ve, iv w0, iv w1, iv w2, iv w3, iv nv, iv kv, iv w0, iv c1v, iv c2v, iv c3v, iv tv, rv wsA, .val (.double pl), .second, .val (.long ktv), .second, iv (0 : Int32), un]) rfl) ?_
          show Ends p.tables e below G (T9.setTop (mkF m 281 #[iv v0, iv v1, iv v2, iv v3, iv ve, iv w0, iv w1, iv w2, iv w3, iv nv, iv kv, iv w0, iv c1v, iv c2v, iv c3v, iv tv, rv wsA, .val (.double pl), .second, .val (.long ktv), .second, iv (0 : Int32), un] []))
          exact at281 _ 0 rfl ⟨by omega, Or.inl (Nat.le_refl _), fun j h1 h2 => absurd h1 (by omega), Or.inr (by rw [show own_sm (own_A4 ua0 ua1 ua2 ua3) (0 + 1) = ua0 from s1]; exact k2)⟩
        · refine Ends.go (fun _ => XS.ifYes X9.here hx rfl (pc0 := 275) (pc' := 281) rfl (hb hby at_275) rfl ((if0 _ _).trans (flt (fun z => k2 ((own_lgt hl hkt).mp z) : ¬ ((0 : Int32) < (lcmpW ((1024 : Int64) * (w0.toInt64)) ktv)))).2.2.2) (by decide) (by decide)) ?_
          show Ends p.tables e below G (T9.setTop (mkF m 281 #[iv v0, iv v1, iv v2, iv v3, iv ve, iv w0, iv w1, iv w2, iv w3, iv nv, iv kv, iv w0, iv c1v, iv c2v, iv c3v, iv tv, rv wsA, .val (.double pl), .second, .val (.long ktv), .second, iv rfv, un] []))
          refine at281 _ rf hrf ⟨hch.1, hch.2.1.elim (fun z => Or.inl (by omega)) Or.inr, fun j h1 h2 => ?_, hch.2.2.2⟩
          by_cases h3 : j = 0
          · rw [h3, show own_sm (own_A4 ua0 ua1 ua2 ua3) (0 + 1) = ua0 from s1]; omega
          · exact hch.2.2.1 j (by omega) h2
      have at243 : ∀ (rfv : Int32) (rf : Nat), rfv.toInt = (rf : Int) → own_CH (own_A4 ua0 ua1 ua2 ua3) nn (kk * t) 2 rf → Ends p.tables e below G (T9.setTop (mkF m 243 #[iv v0, iv v1, iv v2, iv v3, iv ve, iv w0, iv w1, iv w2, iv w3, iv nv, iv kv, iv w0, iv c1v, iv c2v, iv c3v, iv tv, rv wsA, .val (.double pl), .second, .val (.long ktv), .second, iv rfv, un] [])) := by
        intro rfv rf hrf hch
        refine Ends.go (fun _ => XS.iload X9.here hx rfl (hb hby at_243) rfl) ?_
        show Ends p.tables e below G (T9.setTop (mkF m 245 #[iv v0, iv v1, iv v2, iv v3, iv ve, iv w0, iv w1, iv w2, iv w3, iv nv, iv kv, iv w0, iv c1v, iv c2v, iv c3v, iv tv, rv wsA, .val (.double pl), .second, .val (.long ktv), .second, iv rfv, un] [(.int nv)]))
        refine Ends.go (fun _ => XS.iconst X9.here hx rfl (hb hby at_245)) ?_
        show Ends p.tables e below G (T9.setTop (mkF m 246 #[iv v0, iv v1, iv v2, iv v3, iv ve, iv w0, iv w1, iv w2, iv w3, iv nv, iv kv, iv w0, iv c1v, iv c2v, iv c3v, iv tv, rv wsA, .val (.double pl), .second, .val (.long ktv), .second, iv rfv, un] [(.int (2 : Int32)), (.int nv)]))
        by_cases k1 : nn < 2
        · refine Ends.go (fun _ => XS.icmpYes X9.here hx rfl (pc0 := 246) (pc' := 265) rfl (hb hby at_246) rfl (tlt ((own_lt hnn (b := 2) rfl).mpr k1 : nv < (2 : Int32))).1 (by decide) (by decide)) ?_
          show Ends p.tables e below G (T9.setTop (mkF m 265 #[iv v0, iv v1, iv v2, iv v3, iv ve, iv w0, iv w1, iv w2, iv w3, iv nv, iv kv, iv w0, iv c1v, iv c2v, iv c3v, iv tv, rv wsA, .val (.double pl), .second, .val (.long ktv), .second, iv rfv, un] []))
          exact at265 _ rf hrf ⟨hch.1, hch.2.1.elim (fun z => Or.inl (by omega)) Or.inr, fun j h1 h2 => absurd hch.1 (by omega), hch.2.2.2⟩
        · refine Ends.go (fun _ => XS.icmpNo X9.here hx rfl (hb hby at_246) rfl (flt (fun z => k1 ((own_lt hnn (b := 2) rfl).mp z) : ¬ (nv < (2 : Int32)))).1) ?_
          show Ends p.tables e below G (T9.setTop (mkF m 249 #[iv v0, iv v1, iv v2, iv v3, iv ve, iv w0, iv w1, iv w2, iv w3, iv nv, iv kv, iv w0, iv c1v, iv c2v, iv c3v, iv tv, rv wsA, .val (.double pl), .second, .val (.long ktv), .second, iv rfv, un] []))
          refine Ends.go (fun _ => X9.ldc2Long hx hown (mvT hZ (hw _ (List.mem_of_getElem? (i := 2) rfl))) (g := (mkF m 249 #[iv v0, iv v1, iv v2, iv v3, iv ve, iv w0, iv w1, iv w2, iv w3, iv nv, iv kv, iv w0, iv c1v, iv c2v, iv c3v, iv tv, rv wsA, .val (.double pl), .second, .val (.long ktv), .second, iv rfv, un] [])) rfl (hb hby at_249) _) ?_
          show Ends p.tables e below G (T9.setTop (mkF m 252 #[iv v0, iv v1, iv v2, iv v3, iv ve, iv w0, iv w1, iv w2, iv w3, iv nv, iv kv, iv w0, iv c1v, iv c2v, iv c3v, iv tv, rv wsA, .val (.double pl), .second, .val (.long ktv), .second, iv rfv, un] [(.long (1024 : Int64))]))
          refine Ends.go (fun _ => XS.iload X9.here hx rfl (hb hby at_252) rfl) ?_
          show Ends p.tables e below G (T9.setTop (mkF m 254 #[iv v0, iv v1, iv v2, iv v3, iv ve, iv w0, iv w1, iv w2, iv w3, iv nv, iv kv, iv w0, iv c1v, iv c2v, iv c3v, iv tv, rv wsA, .val (.double pl), .second, .val (.long ktv), .second, iv rfv, un] [(.int c1v), (.long (1024 : Int64))]))
          refine Ends.go (fun _ => XS.i2l X9.here hx rfl (hb hby at_254) rfl) ?_
          show Ends p.tables e below G (T9.setTop (mkF m 255 #[iv v0, iv v1, iv v2, iv v3, iv ve, iv w0, iv w1, iv w2, iv w3, iv nv, iv kv, iv w0, iv c1v, iv c2v, iv c3v, iv tv, rv wsA, .val (.double pl), .second, .val (.long ktv), .second, iv rfv, un] [(.long (c1v.toInt64)), (.long (1024 : Int64))]))
          refine Ends.go (fun _ => XS.lmul X9.here hx rfl (hb hby at_255) rfl) ?_
          show Ends p.tables e below G (T9.setTop (mkF m 256 #[iv v0, iv v1, iv v2, iv v3, iv ve, iv w0, iv w1, iv w2, iv w3, iv nv, iv kv, iv w0, iv c1v, iv c2v, iv c3v, iv tv, rv wsA, .val (.double pl), .second, .val (.long ktv), .second, iv rfv, un] [(.long ((1024 : Int64) * (c1v.toInt64)))]))
          refine Ends.go (fun _ => XS.lload X9.here hx rfl (hb hby at_256) rfl) ?_
          show Ends p.tables e below G (T9.setTop (mkF m 258 #[iv v0, iv v1, iv v2, iv v3, iv ve, iv w0, iv w1, iv w2, iv w3, iv nv, iv kv, iv w0, iv c1v, iv c2v, iv c3v, iv tv, rv wsA, .val (.double pl), .second, .val (.long ktv), .second, iv rfv, un] [(.long ktv), (.long ((1024 : Int64) * (c1v.toInt64)))]))
          refine Ends.go (fun _ => XS.lcmp X9.here hx rfl (hb hby at_258) rfl) ?_
          show Ends p.tables e below G (T9.setTop (mkF m 259 #[iv v0, iv v1, iv v2, iv v3, iv ve, iv w0, iv w1, iv w2, iv w3, iv nv, iv kv, iv w0, iv c1v, iv c2v, iv c3v, iv tv, rv wsA, .val (.double pl), .second, .val (.long ktv), .second, iv rfv, un] [(.int (lcmpW ((1024 : Int64) * (c1v.toInt64)) ktv))]))
          have hl := own_l1024 hc1 (by omega)
          by_cases k2 : kk * t < 1024 * (ua0 + ua1)
          · refine Ends.go (fun _ => XS.ifNo X9.here hx rfl (hb hby at_259) rfl ((if0 _ _).trans (tlt ((own_lgt hl hkt).mpr k2 : (0 : Int32) < (lcmpW ((1024 : Int64) * (c1v.toInt64)) ktv))).2.2.2)) ?_
            show Ends p.tables e below G (T9.setTop (mkF m 262 #[iv v0, iv v1, iv v2, iv v3, iv ve, iv w0, iv w1, iv w2, iv w3, iv nv, iv kv, iv w0, iv c1v, iv c2v, iv c3v, iv tv, rv wsA, .val (.double pl), .second, .val (.long ktv), .second, iv rfv, un] []))
            refine Ends.go (fun _ => XS.iconst X9.here hx rfl (hb hby at_262)) ?_
            show Ends p.tables e below G (T9.setTop (mkF m 263 #[iv v0, iv v1, iv v2, iv v3, iv ve, iv w0, iv w1, iv w2, iv w3, iv nv, iv kv, iv w0, iv c1v, iv c2v, iv c3v, iv tv, rv wsA, .val (.double pl), .second, .val (.long ktv), .second, iv rfv, un] [(.int (1 : Int32))]))
            refine Ends.go (fun _ => XS.istore (g := (mkF m 263 #[iv v0, iv v1, iv v2, iv v3, iv ve, iv w0, iv w1, iv w2, iv w3, iv nv, iv kv, iv w0, iv c1v, iv c2v, iv c3v, iv tv, rv wsA, .val (.double pl), .second, .val (.long ktv), .second, iv rfv, un] [(.int (1 : Int32))])) X9.here hx rfl (hb hby at_263) rfl (l' := #[iv v0, iv v1, iv v2, iv v3, iv ve, iv w0, iv w1, iv w2, iv w3, iv nv, iv kv, iv w0, iv c1v, iv c2v, iv c3v, iv tv, rv wsA, .val (.double pl), .second, .val (.long ktv), .second, iv (1 : Int32), un]) rfl) ?_
            show Ends p.tables e below G (T9.setTop (mkF m 265 #[iv v0, iv v1, iv v2, iv v3, iv ve, iv w0, iv w1, iv w2, iv w3, iv nv, iv kv, iv w0, iv c1v, iv c2v, iv c3v, iv tv, rv wsA, .val (.double pl), .second, .val (.long ktv), .second, iv (1 : Int32), un] []))
            exact at265 _ 1 rfl ⟨by omega, Or.inl (Nat.le_refl _), fun j h1 h2 => absurd h1 (by omega), Or.inr (by rw [show own_sm (own_A4 ua0 ua1 ua2 ua3) (1 + 1) = ua0 + ua1 from s2]; exact k2)⟩
          · refine Ends.go (fun _ => XS.ifYes X9.here hx rfl (pc0 := 259) (pc' := 265) rfl (hb hby at_259) rfl ((if0 _ _).trans (flt (fun z => k2 ((own_lgt hl hkt).mp z) : ¬ ((0 : Int32) < (lcmpW ((1024 : Int64) * (c1v.toInt64)) ktv)))).2.2.2) (by decide) (by decide)) ?_
            show Ends p.tables e below G (T9.setTop (mkF m 265 #[iv v0, iv v1, iv v2, iv v3, iv ve, iv w0, iv w1, iv w2, iv w3, iv nv, iv kv, iv w0, iv c1v, iv c2v, iv c3v, iv tv, rv wsA, .val (.double pl), .second, .val (.long ktv), .second, iv rfv, un] []))
            refine at265 _ rf hrf ⟨hch.1, hch.2.1.elim (fun z => Or.inl (by omega)) Or.inr, fun j h1 h2 => ?_, hch.2.2.2⟩
            by_cases h3 : j = 1
            · rw [h3, show own_sm (own_A4 ua0 ua1 ua2 ua3) (1 + 1) = ua0 + ua1 from s2]; omega
            · exact hch.2.2.1 j (by omega) h2
      refine Ends.go (fun _ => XS.iload X9.here hx rfl (hb hby at_221) rfl) ?_
      show Ends p.tables e below G (T9.setTop (mkF m 223 #[iv v0, iv v1, iv v2, iv v3, iv ve, iv w0, iv w1, iv w2, iv w3, iv nv, iv kv, iv w0, iv c1v, iv c2v, iv c3v, iv tv, rv wsA, .val (.double pl), .second, .val (.long ktv), .second, iv rf0, un] [(.int nv)]))
      refine Ends.go (fun _ => XS.iconst X9.here hx rfl (hb hby at_223)) ?_
      show Ends p.tables e below G (T9.setTop (mkF m 224 #[iv v0, iv v1, iv v2, iv v3, iv ve, iv w0, iv w1, iv w2, iv w3, iv nv, iv kv, iv w0, iv c1v, iv c2v, iv c3v, iv tv, rv wsA, .val (.double pl), .second, .val (.long ktv), .second, iv rf0, un] [(.int (3 : Int32)), (.int nv)]))
      by_cases k1 : nn < 3
      · refine Ends.go (fun _ => XS.icmpYes X9.here hx rfl (pc0 := 224) (pc' := 243) rfl (hb hby at_224) rfl (tlt ((own_lt hnn (b := 3) rfl).mpr k1 : nv < (3 : Int32))).1 (by decide) (by decide)) ?_
        show Ends p.tables e below G (T9.setTop (mkF m 243 #[iv v0, iv v1, iv v2, iv v3, iv ve, iv w0, iv w1, iv w2, iv w3, iv nv, iv kv, iv w0, iv c1v, iv c2v, iv c3v, iv tv, rv wsA, .val (.double pl), .second, .val (.long ktv), .second, iv rf0, un] []))
        exact at243 _ (nn - 1) hr0 ⟨by omega, Or.inr (by omega), fun j h1 h2 => absurd h1 (by omega), Or.inl (by omega)⟩
      · refine Ends.go (fun _ => XS.icmpNo X9.here hx rfl (hb hby at_224) rfl (flt (fun z => k1 ((own_lt hnn (b := 3) rfl).mp z) : ¬ (nv < (3 : Int32)))).1) ?_
        show Ends p.tables e below G (T9.setTop (mkF m 227 #[iv v0, iv v1, iv v2, iv v3, iv ve, iv w0, iv w1, iv w2, iv w3, iv nv, iv kv, iv w0, iv c1v, iv c2v, iv c3v, iv tv, rv wsA, .val (.double pl), .second, .val (.long ktv), .second, iv rf0, un] []))
        refine Ends.go (fun _ => X9.ldc2Long hx hown (mvT hZ (hw _ (List.mem_of_getElem? (i := 2) rfl))) (g := (mkF m 227 #[iv v0, iv v1, iv v2, iv v3, iv ve, iv w0, iv w1, iv w2, iv w3, iv nv, iv kv, iv w0, iv c1v, iv c2v, iv c3v, iv tv, rv wsA, .val (.double pl), .second, .val (.long ktv), .second, iv rf0, un] [])) rfl (hb hby at_227) _) ?_
        show Ends p.tables e below G (T9.setTop (mkF m 230 #[iv v0, iv v1, iv v2, iv v3, iv ve, iv w0, iv w1, iv w2, iv w3, iv nv, iv kv, iv w0, iv c1v, iv c2v, iv c3v, iv tv, rv wsA, .val (.double pl), .second, .val (.long ktv), .second, iv rf0, un] [(.long (1024 : Int64))]))
        refine Ends.go (fun _ => XS.iload X9.here hx rfl (hb hby at_230) rfl) ?_
        show Ends p.tables e below G (T9.setTop (mkF m 232 #[iv v0, iv v1, iv v2, iv v3, iv ve, iv w0, iv w1, iv w2, iv w3, iv nv, iv kv, iv w0, iv c1v, iv c2v, iv c3v, iv tv, rv wsA, .val (.double pl), .second, .val (.long ktv), .second, iv rf0, un] [(.int c2v), (.long (1024 : Int64))]))
        refine Ends.go (fun _ => XS.i2l X9.here hx rfl (hb hby at_232) rfl) ?_
        show Ends p.tables e below G (T9.setTop (mkF m 233 #[iv v0, iv v1, iv v2, iv v3, iv ve, iv w0, iv w1, iv w2, iv w3, iv nv, iv kv, iv w0, iv c1v, iv c2v, iv c3v, iv tv, rv wsA, .val (.double pl), .second, .val (.long ktv), .second, iv rf0, un] [(.long (c2v.toInt64)), (.long (1024 : Int64))]))
        refine Ends.go (fun _ => XS.lmul X9.here hx rfl (hb hby at_233) rfl) ?_
        show Ends p.tables e below G (T9.setTop (mkF m 234 #[iv v0, iv v1, iv v2, iv v3, iv ve, iv w0, iv w1, iv w2, iv w3, iv nv, iv kv, iv w0, iv c1v, iv c2v, iv c3v, iv tv, rv wsA, .val (.double pl), .second, .val (.long ktv), .second, iv rf0, un] [(.long ((1024 : Int64) * (c2v.toInt64)))]))
        refine Ends.go (fun _ => XS.lload X9.here hx rfl (hb hby at_234) rfl) ?_
        show Ends p.tables e below G (T9.setTop (mkF m 236 #[iv v0, iv v1, iv v2, iv v3, iv ve, iv w0, iv w1, iv w2, iv w3, iv nv, iv kv, iv w0, iv c1v, iv c2v, iv c3v, iv tv, rv wsA, .val (.double pl), .second, .val (.long ktv), .second, iv rf0, un] [(.long ktv), (.long ((1024 : Int64) * (c2v.toInt64)))]))
        refine Ends.go (fun _ => XS.lcmp X9.here hx rfl (hb hby at_236) rfl) ?_
        show Ends p.tables e below G (T9.setTop (mkF m 237 #[iv v0, iv v1, iv v2, iv v3, iv ve, iv w0, iv w1, iv w2, iv w3, iv nv, iv kv, iv w0, iv c1v, iv c2v, iv c3v, iv tv, rv wsA, .val (.double pl), .second, .val (.long ktv), .second, iv rf0, un] [(.int (lcmpW ((1024 : Int64) * (c2v.toInt64)) ktv))]))
        have hl := own_l1024 hc2 (by omega)
        by_cases k2 : kk * t < 1024 * (ua0 + ua1 + ua2)
        · refine Ends.go (fun _ => XS.ifNo X9.here hx rfl (hb hby at_237) rfl ((if0 _ _).trans (tlt ((own_lgt hl hkt).mpr k2 : (0 : Int32) < (lcmpW ((1024 : Int64) * (c2v.toInt64)) ktv))).2.2.2)) ?_
          show Ends p.tables e below G (T9.setTop (mkF m 240 #[iv v0, iv v1, iv v2, iv v3, iv ve, iv w0, iv w1, iv w2, iv w3, iv nv, iv kv, iv w0, iv c1v, iv c2v, iv c3v, iv tv, rv wsA, .val (.double pl), .second, .val (.long ktv), .second, iv rf0, un] []))
          refine Ends.go (fun _ => XS.iconst X9.here hx rfl (hb hby at_240)) ?_
          show Ends p.tables e below G (T9.setTop (mkF m 241 #[iv v0, iv v1, iv v2, iv v3, iv ve, iv w0, iv w1, iv w2, iv w3, iv nv, iv kv, iv w0, iv c1v, iv c2v, iv c3v, iv tv, rv wsA, .val (.double pl), .second, .val (.long ktv), .second, iv rf0, un] [(.int (2 : Int32))]))
          refine Ends.go (fun _ => XS.istore (g := (mkF m 241 #[iv v0, iv v1, iv v2, iv v3, iv ve, iv w0, iv w1, iv w2, iv w3, iv nv, iv kv, iv w0, iv c1v, iv c2v, iv c3v, iv tv, rv wsA, .val (.double pl), .second, .val (.long ktv), .second, iv rf0, un] [(.int (2 : Int32))])) X9.here hx rfl (hb hby at_241) rfl (l' := #[iv v0, iv v1, iv v2, iv v3, iv ve, iv w0, iv w1, iv w2, iv w3, iv nv, iv kv, iv w0, iv c1v, iv c2v, iv c3v, iv tv, rv wsA, .val (.double pl), .second, .val (.long ktv), .second, iv (2 : Int32), un]) rfl) ?_
          show Ends p.tables e below G (T9.setTop (mkF m 243 #[iv v0, iv v1, iv v2, iv v3, iv ve, iv w0, iv w1, iv w2, iv w3, iv nv, iv kv, iv w0, iv c1v, iv c2v, iv c3v, iv tv, rv wsA, .val (.double pl), .second, .val (.long ktv), .second, iv (2 : Int32), un] []))
          exact at243 _ 2 rfl ⟨by omega, Or.inl (Nat.le_refl _), fun j h1 h2 => absurd h1 (by omega), Or.inr (by rw [show own_sm (own_A4 ua0 ua1 ua2 ua3) (2 + 1) = ua0 + ua1 + ua2 from s3]; exact k2)⟩
        · refine Ends.go (fun _ => XS.ifYes X9.here hx rfl (pc0 := 237) (pc' := 243) rfl (hb hby at_237) rfl ((if0 _ _).trans (flt (fun z => k2 ((own_lgt hl hkt).mp z) : ¬ ((0 : Int32) < (lcmpW ((1024 : Int64) * (c2v.toInt64)) ktv)))).2.2.2) (by decide) (by decide)) ?_
          show Ends p.tables e below G (T9.setTop (mkF m 243 #[iv v0, iv v1, iv v2, iv v3, iv ve, iv w0, iv w1, iv w2, iv w3, iv nv, iv kv, iv w0, iv c1v, iv c2v, iv c3v, iv tv, rv wsA, .val (.double pl), .second, .val (.long ktv), .second, iv rf0, un] []))
          refine at243 _ (nn - 1) hr0 ⟨by omega, Or.inr (by omega), fun j h1 h2 => ?_, Or.inl (by omega)⟩
          obtain rfl : j = 2 := by omega
          rw [show own_sm (own_A4 ua0 ua1 ua2 ua3) (2 + 1) = ua0 + ua1 + ua2 from s3]; omega
  by_cases e1_ : nn = 1
  · refine Ends.go (fun _ => XS.icmpNo X0.here hx rfl (hb hby at_70) rfl (teq ((own_eqn hnn (b := 1) rfl).mpr e1_ : nv = (1 : Int32))).2) ?_
    show Ends p.tables e below G (s₁.setTop (mkF m 73 #[iv v0, iv v1, iv v2, iv v3, iv ve, iv w0, iv w1, iv w2, iv w3, iv nv, iv kv, iv w0, iv c1v, iv c2v, iv c3v, un, un, un, un, un, un, un, un] []))
    obtain rfl : nn = 1 := by omega
    refine Ends.go (fun _ => XS.iload X0.here hx rfl (hb hby at_73) rfl) ?_
    show Ends p.tables e below G (s₁.setTop (mkF m 75 #[iv v0, iv v1, iv v2, iv v3, iv ve, iv w0, iv w1, iv w2, iv w3, iv nv, iv kv, iv w0, iv c1v, iv c2v, iv c3v, un, un, un, un, un, un, un, un] [(.int w0)]))
    refine Ends.go (fun _ => XS.istore (g := (mkF m 75 #[iv v0, iv v1, iv v2, iv v3, iv ve, iv w0, iv w1, iv w2, iv w3, iv nv, iv kv, iv w0, iv c1v, iv c2v, iv c3v, un, un, un, un, un, un, un, un] [(.int w0)])) X0.here hx rfl (hb hby at_75) rfl (l' := #[iv v0, iv v1, iv v2, iv v3, iv ve, iv w0, iv w1, iv w2, iv w3, iv nv, iv kv, iv w0, iv c1v, iv c2v, iv c3v, iv w0, un, un, un, un, un, un, un]) rfl) ?_
    show Ends p.tables e below G (s₁.setTop (mkF m 77 #[iv v0, iv v1, iv v2, iv v3, iv ve, iv w0, iv w1, iv w2, iv w3, iv nv, iv kv, iv w0, iv c1v, iv c2v, iv c3v, iv w0, un, un, un, un, un, un, un] []))
    refine Ends.go (fun _ => XS.iconst X0.here hx rfl (hb hby at_77)) ?_
    show Ends p.tables e below G (s₁.setTop (mkF m 78 #[iv v0, iv v1, iv v2, iv v3, iv ve, iv w0, iv w1, iv w2, iv w3, iv nv, iv kv, iv w0, iv c1v, iv c2v, iv c3v, iv w0, un, un, un, un, un, un, un] [(.int (1 : Int32))]))
    obtain ⟨T4, h4, k4, X4, e4, E4, A4, st4⟩ := newP X0 hx hZ (hw _ (List.mem_of_getElem? (i := 0) rfl)) e0 (g := (mkF m 78 #[iv v0, iv v1, iv v2, iv v3, iv ve, iv w0, iv w1, iv w2, iv w3, iv nv, iv kv, iv w0, iv c1v, iv c2v, iv c3v, iv w0, un, un, un, un, un, un, un] [(.int (1 : Int32))])) rfl (hb hby at_78) rfl (by decide) (cap := 4) (by decide) (by decide) (by decide) (by decide)
    obtain ⟨b4, g4⟩ : ∃ z, z = h0.size := ⟨_, rfl⟩
    rw [← g4] at A4 st4
    have g_b4 : n0 ≤ b4 := Nat.le_trans Z0 (Nat.le_of_eq g4.symm)
    have sz4 := Nat.le_trans Z0 E4.1
    have V4 : AF Z h4 b4 .double 1 (fun _ => (.double 0)) := AF.new A4 rfl
    refine Ends.go (fun _ => st4 _) ?_
    show Ends p.tables e below G (T4.setTop (mkF m 80 #[iv v0, iv v1, iv v2, iv v3, iv ve, iv w0, iv w1, iv w2, iv w3, iv nv, iv kv, iv w0, iv c1v, iv c2v, iv c3v, iv w0, un, un, un, un, un, un, un] [(.ref b4)]))
    refine Ends.go (fun _ => XS.dup X4.here hx rfl (hb hby at_80) rfl rfl) ?_
    show Ends p.tables e below G (T4.setTop (mkF m 81 #[iv v0, iv v1, iv v2, iv v3, iv ve, iv w0, iv w1, iv w2, iv w3, iv nv, iv kv, iv w0, iv c1v, iv c2v, iv c3v, iv w0, un, un, un, un, un, un, un] [(.ref b4), (.ref b4)]))
    refine Ends.go (fun _ => XS.iconst X4.here hx rfl (hb hby at_81)) ?_
    show Ends p.tables e below G (T4.setTop (mkF m 82 #[iv v0, iv v1, iv v2, iv v3, iv ve, iv w0, iv w1, iv w2, iv w3, iv nv, iv kv, iv w0, iv c1v, iv c2v, iv c3v, iv w0, un, un, un, un, un, un, un] [(.int (0 : Int32)), (.ref b4), (.ref b4)]))
    refine Ends.go (fun _ => XS.iload X4.here hx rfl (hb hby at_82) rfl) ?_
    show Ends p.tables e below G (T4.setTop (mkF m 84 #[iv v0, iv v1, iv v2, iv v3, iv ve, iv w0, iv w1, iv w2, iv w3, iv nv, iv kv, iv w0, iv c1v, iv c2v, iv c3v, iv w0, un, un, un, un, un, un, un] [(.int w0), (.int (0 : Int32)), (.ref b4), (.ref b4)]))
    refine Ends.go (fun _ => XS.i2dS X4.here hx rfl (hb hby at_84) rfl (hDi w0 ua0 hw0 (by omega))) ?_
    show Ends p.tables e below G (T4.setTop (mkF m 85 #[iv v0, iv v1, iv v2, iv v3, iv ve, iv w0, iv w1, iv w2, iv w3, iv nv, iv kv, iv w0, iv c1v, iv c2v, iv c3v, iv w0, un, un, un, un, un, un, un] [(.double (D ua0)), (.int (0 : Int32)), (.ref b4), (.ref b4)]))
    obtain ⟨T5, h5, X5, e5, W5, V5, st5⟩ := AF.stD V4 X4 hx hZ e4 (j := (0 : Int32)) (i := 0) (by decide) (by decide) (g := (mkF m 85 #[iv v0, iv v1, iv v2, iv v3, iv ve, iv w0, iv w1, iv w2, iv w3, iv nv, iv kv, iv w0, iv c1v, iv c2v, iv c3v, iv w0, un, un, un, un, un, un, un] [(.double (D ua0)), (.int (0 : Int32)), (.ref b4), (.ref b4)])) rfl rfl (hb hby at_85)
    have sz5 := Nat.le_trans sz4 (Nat.le_of_eq W5.size.symm)
    have N5 := Fr.snoc X5 N0 g_b4
    refine Ends.go (fun _ => st5 _) ?_
    show Ends p.tables e below G (T5.setTop (mkF m 86 #[iv v0, iv v1, iv v2, iv v3, iv ve, iv w0, iv w1, iv w2, iv w3, iv nv, iv kv, iv w0, iv c1v, iv c2v, iv c3v, iv w0, un, un, un, un, un, un, un] [(.ref b4)]))
    refine Ends.go (fun _ => XS.astore (g := (mkF m 86 #[iv v0, iv v1, iv v2, iv v3, iv ve, iv w0, iv w1, iv w2, iv w3, iv nv, iv kv, iv w0, iv c1v, iv c2v, iv c3v, iv w0, un, un, un, un, un, un, un] [(.ref b4)])) X5.here hx rfl (hb hby at_86) rfl rfl (l' := #[iv v0, iv v1, iv v2, iv v3, iv ve, iv w0, iv w1, iv w2, iv w3, iv nv, iv kv, iv w0, iv c1v, iv c2v, iv c3v, iv w0, rv b4, un, un, un, un, un, un]) rfl) ?_
    show Ends p.tables e below G (T5.setTop (mkF m 88 #[iv v0, iv v1, iv v2, iv v3, iv ve, iv w0, iv w1, iv w2, iv w3, iv nv, iv kv, iv w0, iv c1v, iv c2v, iv c3v, iv w0, rv b4, un, un, un, un, un, un] []))
    refine Ends.go (fun _ => XS.goto X5.here hx rfl (pc0 := 88) (pc' := 190) rfl (hb hby at_88) (by decide) (by decide)) ?_
    show Ends p.tables e below G (T5.setTop (mkF m 190 #[iv v0, iv v1, iv v2, iv v3, iv ve, iv w0, iv w1, iv w2, iv w3, iv nv, iv kv, iv w0, iv c1v, iv c2v, iv c3v, iv w0, rv b4, un, un, un, un, un, un] []))
    exact tail190 _ _ _ _ (own_sm (own_A4 ua0 ua1 ua2 ua3) 1) _ X5 e5 N5 sz5 (AF.congr V5 (fun j hj => match j, hj with | 0, _ => rfl)) (by rw [s1]; exact hw0) rfl
  · refine Ends.go (fun _ => XS.icmpYes X0.here hx rfl (pc0 := 70) (pc' := 91) rfl (hb hby at_70) rfl (feq (fun z => e1_ ((own_eqn hnn (b := 1) rfl).mp z) : ¬ (nv = (1 : Int32)))).2 (by decide) (by decide)) ?_
    show Ends p.tables e below G (s₁.setTop (mkF m 91 #[iv v0, iv v1, iv v2, iv v3, iv ve, iv w0, iv w1, iv w2, iv w3, iv nv, iv kv, iv w0, iv c1v, iv c2v, iv c3v, un, un, un, un, un, un, un, un] []))
    refine Ends.go (fun _ => XS.iload X0.here hx rfl (hb hby at_91) rfl) ?_
    show Ends p.tables e below G (s₁.setTop (mkF m 93 #[iv v0, iv v1, iv v2, iv v3, iv ve, iv w0, iv w1, iv w2, iv w3, iv nv, iv kv, iv w0, iv c1v, iv c2v, iv c3v, un, un, un, un, un, un, un, un] [(.int nv)]))
    refine Ends.go (fun _ => XS.iconst X0.here hx rfl (hb hby at_93)) ?_
    show Ends p.tables e below G (s₁.setTop (mkF m 94 #[iv v0, iv v1, iv v2, iv v3, iv ve, iv w0, iv w1, iv w2, iv w3, iv nv, iv kv, iv w0, iv c1v, iv c2v, iv c3v, un, un, un, un, un, un, un, un] [(.int (2 : Int32)), (.int nv)]))
    by_cases e2_ : nn = 2
    · refine Ends.go (fun _ => XS.icmpNo X0.here hx rfl (hb hby at_94) rfl (teq ((own_eqn hnn (b := 2) rfl).mpr e2_ : nv = (2 : Int32))).2) ?_
      show Ends p.tables e below G (s₁.setTop (mkF m 97 #[iv v0, iv v1, iv v2, iv v3, iv ve, iv w0, iv w1, iv w2, iv w3, iv nv, iv kv, iv w0, iv c1v, iv c2v, iv c3v, un, un, un, un, un, un, un, un] []))
      obtain rfl : nn = 2 := by omega
      refine Ends.go (fun _ => XS.iload X0.here hx rfl (hb hby at_97) rfl) ?_
      show Ends p.tables e below G (s₁.setTop (mkF m 99 #[iv v0, iv v1, iv v2, iv v3, iv ve, iv w0, iv w1, iv w2, iv w3, iv nv, iv kv, iv w0, iv c1v, iv c2v, iv c3v, un, un, un, un, un, un, un, un] [(.int c1v)]))
      refine Ends.go (fun _ => XS.istore (g := (mkF m 99 #[iv v0, iv v1, iv v2, iv v3, iv ve, iv w0, iv w1, iv w2, iv w3, iv nv, iv kv, iv w0, iv c1v, iv c2v, iv c3v, un, un, un, un, un, un, un, un] [(.int c1v)])) X0.here hx rfl (hb hby at_99) rfl (l' := #[iv v0, iv v1, iv v2, iv v3, iv ve, iv w0, iv w1, iv w2, iv w3, iv nv, iv kv, iv w0, iv c1v, iv c2v, iv c3v, iv c1v, un, un, un, un, un, un, un]) rfl) ?_
      show Ends p.tables e below G (s₁.setTop (mkF m 101 #[iv v0, iv v1, iv v2, iv v3, iv ve, iv w0, iv w1, iv w2, iv w3, iv nv, iv kv, iv w0, iv c1v, iv c2v, iv c3v, iv c1v, un, un, un, un, un, un, un] []))
      refine Ends.go (fun _ => XS.iconst X0.here hx rfl (hb hby at_101)) ?_
      show Ends p.tables e below G (s₁.setTop (mkF m 102 #[iv v0, iv v1, iv v2, iv v3, iv ve, iv w0, iv w1, iv w2, iv w3, iv nv, iv kv, iv w0, iv c1v, iv c2v, iv c3v, iv c1v, un, un, un, un, un, un, un] [(.int (2 : Int32))]))
      obtain ⟨T6, h6, k6, X6, e6, E6, A6, st6⟩ := newP X0 hx hZ (hw _ (List.mem_of_getElem? (i := 0) rfl)) e0 (g := (mkF m 102 #[iv v0, iv v1, iv v2, iv v3, iv ve, iv w0, iv w1, iv w2, iv w3, iv nv, iv kv, iv w0, iv c1v, iv c2v, iv c3v, iv c1v, un, un, un, un, un, un, un] [(.int (2 : Int32))])) rfl (hb hby at_102) rfl (by decide) (cap := 4) (by decide) (by decide) (by decide) (by decide)
      obtain ⟨b6, g6⟩ : ∃ z, z = h0.size := ⟨_, rfl⟩
      rw [← g6] at A6 st6
      have g_b6 : n0 ≤ b6 := Nat.le_trans Z0 (Nat.le_of_eq g6.symm)
      have sz6 := Nat.le_trans Z0 E6.1
      have V6 : AF Z h6 b6 .double 2 (fun _ => (.double 0)) := AF.new A6 rfl
      refine Ends.go (fun _ => st6 _) ?_
      show Ends p.tables e below G (T6.setTop (mkF m 104 #[iv v0, iv v1, iv v2, iv v3, iv ve, iv w0, iv w1, iv w2, iv w3, iv nv, iv kv, iv w0, iv c1v, iv c2v, iv c3v, iv c1v, un, un, un, un, un, un, un] [(.ref b6)]))
      refine Ends.go (fun _ => XS.dup X6.here hx rfl (hb hby at_104) rfl rfl) ?_
      show Ends p.tables e below G (T6.setTop (mkF m 105 #[iv v0, iv v1, iv v2, iv v3, iv ve, iv w0, iv w1, iv w2, iv w3, iv nv, iv kv, iv w0, iv c1v, iv c2v, iv c3v, iv c1v, un, un, un, un, un, un, un] [(.ref b6), (.ref b6)]))
      refine Ends.go (fun _ => XS.iconst X6.here hx rfl (hb hby at_105)) ?_
      show Ends p.tables e below G (T6.setTop (mkF m 106 #[iv v0, iv v1, iv v2, iv v3, iv ve, iv w0, iv w1, iv w2, iv w3, iv nv, iv kv, iv w0, iv c1v, iv c2v, iv c3v, iv c1v, un, un, un, un, un, un, un] [(.int (0 : Int32)), (.ref b6), (.ref b6)]))
      refine Ends.go (fun _ => XS.iload X6.here hx rfl (hb hby at_106) rfl) ?_
      show Ends p.tables e below G (T6.setTop (mkF m 108 #[iv v0, iv v1, iv v2, iv v3, iv ve, iv w0, iv w1, iv w2, iv w3, iv nv, iv kv, iv w0, iv c1v, iv c2v, iv c3v, iv c1v, un, un, un, un, un, un, un] [(.int w0), (.int (0 : Int32)), (.ref b6), (.ref b6)]))
      refine Ends.go (fun _ => XS.i2dS X6.here hx rfl (hb hby at_108) rfl (hDi w0 ua0 hw0 (by omega))) ?_
      show Ends p.tables e below G (T6.setTop (mkF m 109 #[iv v0, iv v1, iv v2, iv v3, iv ve, iv w0, iv w1, iv w2, iv w3, iv nv, iv kv, iv w0, iv c1v, iv c2v, iv c3v, iv c1v, un, un, un, un, un, un, un] [(.double (D ua0)), (.int (0 : Int32)), (.ref b6), (.ref b6)]))
      obtain ⟨T7, h7, X7, e7, W7, V7, st7⟩ := AF.stD V6 X6 hx hZ e6 (j := (0 : Int32)) (i := 0) (by decide) (by decide) (g := (mkF m 109 #[iv v0, iv v1, iv v2, iv v3, iv ve, iv w0, iv w1, iv w2, iv w3, iv nv, iv kv, iv w0, iv c1v, iv c2v, iv c3v, iv c1v, un, un, un, un, un, un, un] [(.double (D ua0)), (.int (0 : Int32)), (.ref b6), (.ref b6)])) rfl rfl (hb hby at_109)
      have sz7 := Nat.le_trans sz6 (Nat.le_of_eq W7.size.symm)
      have N7 := Fr.snoc X7 N0 g_b6
      refine Ends.go (fun _ => st7 _) ?_
      show Ends p.tables e below G (T7.setTop (mkF m 110 #[iv v0, iv v1, iv v2, iv v3, iv ve, iv w0, iv w1, iv w2, iv w3, iv nv, iv kv, iv w0, iv c1v, iv c2v, iv c3v, iv c1v, un, un, un, un, un, un, un] [(.ref b6)]))
      refine Ends.go (fun _ => XS.dup X7.here hx rfl (hb hby at_110) rfl rfl) ?_
      show Ends p.tables e below G (T7.setTop (mkF m 111 #[iv v0, iv v1, iv v2, iv v3, iv ve, iv w0, iv w1, iv w2, iv w3, iv nv, iv kv, iv w0, iv c1v, iv c2v, iv c3v, iv c1v, un, un, un, un, un, un, un] [(.ref b6), (.ref b6)]))
      refine Ends.go (fun _ => XS.iconst X7.here hx rfl (hb hby at_111)) ?_
      show Ends p.tables e below G (T7.setTop (mkF m 112 #[iv v0, iv v1, iv v2, iv v3, iv ve, iv w0, iv w1, iv w2, iv w3, iv nv, iv kv, iv w0, iv c1v, iv c2v, iv c3v, iv c1v, un, un, un, un, un, un, un] [(.int (1 : Int32)), (.ref b6), (.ref b6)]))
      refine Ends.go (fun _ => XS.iload X7.here hx rfl (hb hby at_112) rfl) ?_
      show Ends p.tables e below G (T7.setTop (mkF m 114 #[iv v0, iv v1, iv v2, iv v3, iv ve, iv w0, iv w1, iv w2, iv w3, iv nv, iv kv, iv w0, iv c1v, iv c2v, iv c3v, iv c1v, un, un, un, un, un, un, un] [(.int w1), (.int (1 : Int32)), (.ref b6), (.ref b6)]))
      refine Ends.go (fun _ => XS.i2dS X7.here hx rfl (hb hby at_114) rfl (hDi w1 ua1 hw1 (by omega))) ?_
      show Ends p.tables e below G (T7.setTop (mkF m 115 #[iv v0, iv v1, iv v2, iv v3, iv ve, iv w0, iv w1, iv w2, iv w3, iv nv, iv kv, iv w0, iv c1v, iv c2v, iv c3v, iv c1v, un, un, un, un, un, un, un] [(.double (D ua1)), (.int (1 : Int32)), (.ref b6), (.ref b6)]))
      obtain ⟨T8, h8, X8, e8, W8, V8, st8⟩ := AF.stD V7 X7 hx hZ e7 (j := (1 : Int32)) (i := 1) (by decide) (by decide) (g := (mkF m 115 #[iv v0, iv v1, iv v2, iv v3, iv ve, iv w0, iv w1, iv w2, iv w3, iv nv, iv kv, iv w0, iv c1v, iv c2v, iv c3v, iv c1v, un, un, un, un, un, un, un] [(.double (D ua1)), (.int (1 : Int32)), (.ref b6), (.ref b6)])) rfl rfl (hb hby at_115)
      have sz8 := Nat.le_trans sz7 (Nat.le_of_eq W8.size.symm)
      have N8 := Fr.snoc X8 N7 g_b6
      refine Ends.go (fun _ => st8 _) ?_
      show Ends p.tables e below G (T8.setTop (mkF m 116 #[iv v0, iv v1, iv v2, iv v3, iv ve, iv w0, iv w1, iv w2, iv w3, iv nv, iv kv, iv w0, iv c1v, iv c2v, iv c3v, iv c1v, un, un, un, un, un, un, un] [(.ref b6)]))
      refine Ends.go (fun _ => XS.astore (g := (mkF m 116 #[iv v0, iv v1, iv v2, iv v3, iv ve, iv w0, iv w1, iv w2, iv w3, iv nv, iv kv, iv w0, iv c1v, iv c2v, iv c3v, iv c1v, un, un, un, un, un, un, un] [(.ref b6)])) X8.here hx rfl (hb hby at_116) rfl rfl (l' := #[iv v0, iv v1, iv v2, iv v3, iv ve, iv w0, iv w1, iv w2, iv w3, iv nv, iv kv, iv w0, iv c1v, iv c2v, iv c3v, iv c1v, rv b6, un, un, un, un, un, un]) rfl) ?_
      show Ends p.tables e below G (T8.setTop (mkF m 118 #[iv v0, iv v1, iv v2, iv v3, iv ve, iv w0, iv w1, iv w2, iv w3, iv nv, iv kv, iv w0, iv c1v, iv c2v, iv c3v, iv c1v, rv b6, un, un, un, un, un, un] []))
      refine Ends.go (fun _ => XS.goto X8.here hx rfl (pc0 := 118) (pc' := 190) rfl (hb hby at_118) (by decide) (by decide)) ?_
      show Ends p.tables e below G (T8.setTop (mkF m 190 #[iv v0, iv v1, iv v2, iv v3, iv ve, iv w0, iv w1, iv w2, iv w3, iv nv, iv kv, iv w0, iv c1v, iv c2v, iv c3v, iv c1v, rv b6, un, un, un, un, un, un] []))
      exact tail190 _ _ _ _ (own_sm (own_A4 ua0 ua1 ua2 ua3) 2) _ X8 e8 N8 sz8 (AF.congr V8 (fun j hj => match j, hj with | 0, _ => rfl | 1, _ => rfl)) (by rw [s2]; exact hc1) rfl
    · refine Ends.go (fun _ => XS.icmpYes X0.here hx rfl (pc0 := 94) (pc' := 121) rfl (hb hby at_94) rfl (feq (fun z => e2_ ((own_eqn hnn (b := 2) rfl).mp z) : ¬ (nv = (2 : Int32)))).2 (by decide) (by decide)) ?_
      show Ends p.tables e below G (s₁.setTop (mkF m 121 #[iv v0, iv v1, iv v2, iv v3, iv ve, iv w0, iv w1, iv w2, iv w3, iv nv, iv kv, iv w0, iv c1v, iv c2v, iv c3v, un, un, un, un, un, un, un, un] []))
      refine Ends.go (fun _ => XS.iload X0.here hx rfl (hb hby at_121) rfl) ?_
      show Ends p.tables e below G (s₁.setTop (mkF m 123 #[iv v0, iv v1, iv v2, iv v3, iv ve, iv w0, iv w1, iv w2, iv w3, iv nv, iv kv, iv w0, iv c1v, iv c2v, iv c3v, un, un, un, un, un, un, un, un] [(.int nv)]))
      refine Ends.go (fun _ => XS.iconst X0.here hx rfl (hb hby at_123)) ?_
      show Ends p.tables e below G (s₁.setTop (mkF m 124 #[iv v0, iv v1, iv v2, iv v3, iv ve, iv w0, iv w1, iv w2, iv w3, iv nv, iv kv, iv w0, iv c1v, iv c2v, iv c3v, un, un, un, un, un, un, un, un] [(.int (3 : Int32)), (.int nv)]))
      by_cases e3_ : nn = 3
      · refine Ends.go (fun _ => XS.icmpNo X0.here hx rfl (hb hby at_124) rfl (teq ((own_eqn hnn (b := 3) rfl).mpr e3_ : nv = (3 : Int32))).2) ?_
        show Ends p.tables e below G (s₁.setTop (mkF m 127 #[iv v0, iv v1, iv v2, iv v3, iv ve, iv w0, iv w1, iv w2, iv w3, iv nv, iv kv, iv w0, iv c1v, iv c2v, iv c3v, un, un, un, un, un, un, un, un] []))
        obtain rfl : nn = 3 := by omega
        refine Ends.go (fun _ => XS.iload X0.here hx rfl (hb hby at_127) rfl) ?_
        show Ends p.tables e below G (s₁.setTop (mkF m 129 #[iv v0, iv v1, iv v2, iv v3, iv ve, iv w0, iv w1, iv w2, iv w3, iv nv, iv kv, iv w0, iv c1v, iv c2v, iv c3v, un, un, un, un, un, un, un, un] [(.int c2v)]))
        refine Ends.go (fun _ => XS.istore (g := (mkF m 129 #[iv v0, iv v1, iv v2, iv v3, iv ve, iv w0, iv w1, iv w2, iv w3, iv nv, iv kv, iv w0, iv c1v, iv c2v, iv c3v, un, un, un, un, un, un, un, un] [(.int c2v)])) X0.here hx rfl (hb hby at_129) rfl (l' := #[iv v0, iv v1, iv v2, iv v3, iv ve, iv w0, iv w1, iv w2, iv w3, iv nv, iv kv, iv w0, iv c1v, iv c2v, iv c3v, iv c2v, un, un, un, un, un, un, un]) rfl) ?_
        show Ends p.tables e below G (s₁.setTop (mkF m 131 #[iv v0, iv v1, iv v2, iv v3, iv ve, iv w0, iv w1, iv w2, iv w3, iv nv, iv kv, iv w0, iv c1v, iv c2v, iv c3v, iv c2v, un, un, un, un, un, un, un] []))
        refine Ends.go (fun _ => XS.iconst X0.here hx rfl (hb hby at_131)) ?_
        show Ends p.tables e below G (s₁.setTop (mkF m 132 #[iv v0, iv v1, iv v2, iv v3, iv ve, iv w0, iv w1, iv w2, iv w3, iv nv, iv kv, iv w0, iv c1v, iv c2v, iv c3v, iv c2v, un, un, un, un, un, un, un] [(.int (3 : Int32))]))
        obtain ⟨T9, h9, k9, X9, e9, E9, A9, st9⟩ := newP X0 hx hZ (hw _ (List.mem_of_getElem? (i := 0) rfl)) e0 (g := (mkF m 132 #[iv v0, iv v1, iv v2, iv v3, iv ve, iv w0, iv w1, iv w2, iv w3, iv nv, iv kv, iv w0, iv c1v, iv c2v, iv c3v, iv c2v, un, un, un, un, un, un, un] [(.int (3 : Int32))])) rfl (hb hby at_132) rfl (by decide) (cap := 4) (by decide) (by decide) (by decide) (by decide)
        obtain ⟨b9, g9⟩ : ∃ z, z = h0.size := ⟨_, rfl⟩
        rw [← g9] at A9 st9
        have g_b9 : n0 ≤ b9 := Nat.le_trans Z0 (Nat.le_of_eq g9.symm)
        have sz9 := Nat.le_trans Z0 E9.1
        have V9 : AF Z h9 b9 .double 3 (fun _ => (.double 0)) := AF.new A9 rfl
        refine Ends.go (fun _ => st9 _) ?_
        show Ends p.tables e below G (T9.setTop (mkF m 134 #[iv v0, iv v1, iv v2, iv v3, iv ve, iv w0, iv w1, iv w2, iv w3, iv nv, iv kv, iv w0, iv c1v, iv c2v, iv c3v, iv c2v, un, un, un, un, un, un, un] [(.ref b9)]))
        refine Ends.go (fun _ => XS.dup X9.here hx rfl (hb hby at_134) rfl rfl) ?_
        show Ends p.tables e below G (T9.setTop (mkF m 135 #[iv v0, iv v1, iv v2, iv v3, iv ve, iv w0, iv w1, iv w2, iv w3, iv nv, iv kv, iv w0, iv c1v, iv c2v, iv c3v, iv c2v, un, un, un, un, un, un, un] [(.ref b9), (.ref b9)]))
        refine Ends.go (fun _ => XS.iconst X9.here hx rfl (hb hby at_135)) ?_
        show Ends p.tables e below G (T9.setTop (mkF m 136 #[iv v0, iv v1, iv v2, iv v3, iv ve, iv w0, iv w1, iv w2, iv w3, iv nv, iv kv, iv w0, iv c1v, iv c2v, iv c3v, iv c2v, un, un, un, un, un, un, un] [(.int (0 : Int32)), (.ref b9), (.ref b9)]))
        refine Ends.go (fun _ => XS.iload X9.here hx rfl (hb hby at_136) rfl) ?_
        show Ends p.tables e below G (T9.setTop (mkF m 138 #[iv v0, iv v1, iv v2, iv v3, iv ve, iv w0, iv w1, iv w2, iv w3, iv nv, iv kv, iv w0, iv c1v, iv c2v, iv c3v, iv c2v, un, un, un, un, un, un, un] [(.int w0), (.int (0 : Int32)), (.ref b9), (.ref b9)]))
        refine Ends.go (fun _ => XS.i2dS X9.here hx rfl (hb hby at_138) rfl (hDi w0 ua0 hw0 (by omega))) ?_
        show Ends p.tables e below G (T9.setTop (mkF m 139 #[iv v0, iv v1, iv v2, iv v3, iv ve, iv w0, iv w1, iv w2, iv w3, iv nv, iv kv, iv w0, iv c1v, iv c2v, iv c3v, iv c2v, un, un, un, un, un, un, un] [(.double (D ua0)), (.int (0 : Int32)), (.ref b9), (.ref b9)]))
        obtain ⟨T10, h10, X10, e10, W10, V10, st10⟩ := AF.stD V9 X9 hx hZ e9 (j := (0 : Int32)) (i := 0) (by decide) (by decide) (g := (mkF m 139 #[iv v0, iv v1, iv v2, iv v3, iv ve, iv w0, iv w1, iv w2, iv w3, iv nv, iv kv, iv w0, iv c1v, iv c2v, iv c3v, iv c2v, un, un, un, un, un, un, un] [(.double (D ua0)), (.int (0 : Int32)), (.ref b9), (.ref b9)])) rfl rfl (hb hby at_139)
        have sz10 := Nat.le_trans sz9 (Nat.le_of_eq W10.size.symm)
        have N10 := Fr.snoc X10 N0 g_b9
        refine Ends.go (fun _ => st10 _) ?_
        show Ends p.tables e below G (T10.setTop (mkF m 140 #[iv v0, iv v1, iv v2, iv v3, iv ve, iv w0, iv w1, iv w2, iv w3, iv nv, iv kv, iv w0, iv c1v, iv c2v, iv c3v, iv c2v, un, un, un, un, un, un, un] [(.ref b9)]))
        refine Ends.go (fun _ => XS.dup X10.here hx rfl (hb hby at_140) rfl rfl) ?_
        show Ends p.tables e below G (T10.setTop (mkF m 141 #[iv v0, iv v1, iv v2, iv v3, iv ve, iv w0, iv w1, iv w2, iv w3, iv nv, iv kv, iv w0, iv c1v, iv c2v, iv c3v, iv c2v, un, un, un, un, un, un, un] [(.ref b9), (.ref b9)]))
        refine Ends.go (fun _ => XS.iconst X10.here hx rfl (hb hby at_141)) ?_
        show Ends p.tables e below G (T10.setTop (mkF m 142 #[iv v0, iv v1, iv v2, iv v3, iv ve, iv w0, iv w1, iv w2, iv w3, iv nv, iv kv, iv w0, iv c1v, iv c2v, iv c3v, iv c2v, un, un, un, un, un, un, un] [(.int (1 : Int32)), (.ref b9), (.ref b9)]))
        refine Ends.go (fun _ => XS.iload X10.here hx rfl (hb hby at_142) rfl) ?_
        show Ends p.tables e below G (T10.setTop (mkF m 144 #[iv v0, iv v1, iv v2, iv v3, iv ve, iv w0, iv w1, iv w2, iv w3, iv nv, iv kv, iv w0, iv c1v, iv c2v, iv c3v, iv c2v, un, un, un, un, un, un, un] [(.int w1), (.int (1 : Int32)), (.ref b9), (.ref b9)]))
        refine Ends.go (fun _ => XS.i2dS X10.here hx rfl (hb hby at_144) rfl (hDi w1 ua1 hw1 (by omega))) ?_
        show Ends p.tables e below G (T10.setTop (mkF m 145 #[iv v0, iv v1, iv v2, iv v3, iv ve, iv w0, iv w1, iv w2, iv w3, iv nv, iv kv, iv w0, iv c1v, iv c2v, iv c3v, iv c2v, un, un, un, un, un, un, un] [(.double (D ua1)), (.int (1 : Int32)), (.ref b9), (.ref b9)]))
        obtain ⟨T11, h11, X11, e11, W11, V11, st11⟩ := AF.stD V10 X10 hx hZ e10 (j := (1 : Int32)) (i := 1) (by decide) (by decide) (g := (mkF m 145 #[iv v0, iv v1, iv v2, iv v3, iv ve, iv w0, iv w1, iv w2, iv w3, iv nv, iv kv, iv w0, iv c1v, iv c2v, iv c3v, iv c2v, un, un, un, un, un, un, un] [(.double (D ua1)), (.int (1 : Int32)), (.ref b9), (.ref b9)])) rfl rfl (hb hby at_145)
        have sz11 := Nat.le_trans sz10 (Nat.le_of_eq W11.size.symm)
        have N11 := Fr.snoc X11 N10 g_b9
        refine Ends.go (fun _ => st11 _) ?_
        show Ends p.tables e below G (T11.setTop (mkF m 146 #[iv v0, iv v1, iv v2, iv v3, iv ve, iv w0, iv w1, iv w2, iv w3, iv nv, iv kv, iv w0, iv c1v, iv c2v, iv c3v, iv c2v, un, un, un, un, un, un, un] [(.ref b9)]))
        refine Ends.go (fun _ => XS.dup X11.here hx rfl (hb hby at_146) rfl rfl) ?_
        show Ends p.tables e below G (T11.setTop (mkF m 147 #[iv v0, iv v1, iv v2, iv v3, iv ve, iv w0, iv w1, iv w2, iv w3, iv nv, iv kv, iv w0, iv c1v, iv c2v, iv c3v, iv c2v, un, un, un, un, un, un, un] [(.ref b9), (.ref b9)]))
        refine Ends.go (fun _ => XS.iconst X11.here hx rfl (hb hby at_147)) ?_
        show Ends p.tables e below G (T11.setTop (mkF m 148 #[iv v0, iv v1, iv v2, iv v3, iv ve, iv w0, iv w1, iv w2, iv w3, iv nv, iv kv, iv w0, iv c1v, iv c2v, iv c3v, iv c2v, un, un, un, un, un, un, un] [(.int (2 : Int32)), (.ref b9), (.ref b9)]))
        refine Ends.go (fun _ => XS.iload X11.here hx rfl (hb hby at_148) rfl) ?_
        show Ends p.tables e below G (T11.setTop (mkF m 150 #[iv v0, iv v1, iv v2, iv v3, iv ve, iv w0, iv w1, iv w2, iv w3, iv nv, iv kv, iv w0, iv c1v, iv c2v, iv c3v, iv c2v, un, un, un, un, un, un, un] [(.int w2), (.int (2 : Int32)), (.ref b9), (.ref b9)]))
        refine Ends.go (fun _ => XS.i2dS X11.here hx rfl (hb hby at_150) rfl (hDi w2 ua2 hw2 (by omega))) ?_
        show Ends p.tables e below G (T11.setTop (mkF m 151 #[iv v0, iv v1, iv v2, iv v3, iv ve, iv w0, iv w1, iv w2, iv w3, iv nv, iv kv, iv w0, iv c1v, iv c2v, iv c3v, iv c2v, un, un, un, un, un, un, un] [(.double (D ua2)), (.int (2 : Int32)), (.ref b9), (.ref b9)]))
        obtain ⟨T12, h12, X12, e12, W12, V12, st12⟩ := AF.stD V11 X11 hx hZ e11 (j := (2 : Int32)) (i := 2) (by decide) (by decide) (g := (mkF m 151 #[iv v0, iv v1, iv v2, iv v3, iv ve, iv w0, iv w1, iv w2, iv w3, iv nv, iv kv, iv w0, iv c1v, iv c2v, iv c3v, iv c2v, un, un, un, un, un, un, un] [(.double (D ua2)), (.int (2 : Int32)), (.ref b9), (.ref b9)])) rfl rfl (hb hby at_151)
        have sz12 := Nat.le_trans sz11 (Nat.le_of_eq W12.size.symm)
        have N12 := Fr.snoc X12 N11 g_b9
        refine Ends.go (fun _ => st12 _) ?_
        show Ends p.tables e below G (T12.setTop (mkF m 152 #[iv v0, iv v1, iv v2, iv v3, iv ve, iv w0, iv w1, iv w2, iv w3, iv nv, iv kv, iv w0, iv c1v, iv c2v, iv c3v, iv c2v, un, un, un, un, un, un, un] [(.ref b9)]))
        refine Ends.go (fun _ => XS.astore (g := (mkF m 152 #[iv v0, iv v1, iv v2, iv v3, iv ve, iv w0, iv w1, iv w2, iv w3, iv nv, iv kv, iv w0, iv c1v, iv c2v, iv c3v, iv c2v, un, un, un, un, un, un, un] [(.ref b9)])) X12.here hx rfl (hb hby at_152) rfl rfl (l' := #[iv v0, iv v1, iv v2, iv v3, iv ve, iv w0, iv w1, iv w2, iv w3, iv nv, iv kv, iv w0, iv c1v, iv c2v, iv c3v, iv c2v, rv b9, un, un, un, un, un, un]) rfl) ?_
        show Ends p.tables e below G (T12.setTop (mkF m 154 #[iv v0, iv v1, iv v2, iv v3, iv ve, iv w0, iv w1, iv w2, iv w3, iv nv, iv kv, iv w0, iv c1v, iv c2v, iv c3v, iv c2v, rv b9, un, un, un, un, un, un] []))
        refine Ends.go (fun _ => XS.goto X12.here hx rfl (pc0 := 154) (pc' := 190) rfl (hb hby at_154) (by decide) (by decide)) ?_
        show Ends p.tables e below G (T12.setTop (mkF m 190 #[iv v0, iv v1, iv v2, iv v3, iv ve, iv w0, iv w1, iv w2, iv w3, iv nv, iv kv, iv w0, iv c1v, iv c2v, iv c3v, iv c2v, rv b9, un, un, un, un, un, un] []))
        exact tail190 _ _ _ _ (own_sm (own_A4 ua0 ua1 ua2 ua3) 3) _ X12 e12 N12 sz12 (AF.congr V12 (fun j hj => match j, hj with | 0, _ => rfl | 1, _ => rfl | 2, _ => rfl)) (by rw [s3]; exact hc2) rfl
      · refine Ends.go (fun _ => XS.icmpYes X0.here hx rfl (pc0 := 124) (pc' := 157) rfl (hb hby at_124) rfl (feq (fun z => e3_ ((own_eqn hnn (b := 3) rfl).mp z) : ¬ (nv = (3 : Int32)))).2 (by decide) (by decide)) ?_
        show Ends p.tables e below G (s₁.setTop (mkF m 157 #[iv v0, iv v1, iv v2, iv v3, iv ve, iv w0, iv w1, iv w2, iv w3, iv nv, iv kv, iv w0, iv c1v, iv c2v, iv c3v, un, un, un, un, un, un, un, un] []))
        obtain rfl : nn = 4 := by omega
        refine Ends.go (fun _ => XS.iload X0.here hx rfl (hb hby at_157) rfl) ?_
        show Ends p.tables e below G (s₁.setTop (mkF m 159 #[iv v0, iv v1, iv v2, iv v3, iv ve, iv w0, iv w1, iv w2, iv w3, iv nv, iv kv, iv w0, iv c1v, iv c2v, iv c3v, un, un, un, un, un, un, un, un] [(.int c3v)]))
        refine Ends.go (fun _ => XS.istore (g := (mkF m 159 #[iv v0, iv v1, iv v2, iv v3, iv ve, iv w0, iv w1, iv w2, iv w3, iv nv, iv kv, iv w0, iv c1v, iv c2v, iv c3v, un, un, un, un, un, un, un, un] [(.int c3v)])) X0.here hx rfl (hb hby at_159) rfl (l' := #[iv v0, iv v1, iv v2, iv v3, iv ve, iv w0, iv w1, iv w2, iv w3, iv nv, iv kv, iv w0, iv c1v, iv c2v, iv c3v, iv c3v, un, un, un, un, un, un, un]) rfl) ?_
        show Ends p.tables e below G (s₁.setTop (mkF m 161 #[iv v0, iv v1, iv v2, iv v3, iv ve, iv w0, iv w1, iv w2, iv w3, iv nv, iv kv, iv w0, iv c1v, iv c2v, iv c3v, iv c3v, un, un, un, un, un, un, un] []))
        refine Ends.go (fun _ => XS.iconst X0.here hx rfl (hb hby at_161)) ?_
        show Ends p.tables e below G (s₁.setTop (mkF m 162 #[iv v0, iv v1, iv v2, iv v3, iv ve, iv w0, iv w1, iv w2, iv w3, iv nv, iv kv, iv w0, iv c1v, iv c2v, iv c3v, iv c3v, un, un, un, un, un, un, un] [(.int (4 : Int32))]))
        obtain ⟨T13, h13, k13, X13, e13, E13, A13, st13⟩ := newP X0 hx hZ (hw _ (List.mem_of_getElem? (i := 0) rfl)) e0 (g := (mkF m 162 #[iv v0, iv v1, iv v2, iv v3, iv ve, iv w0, iv w1, iv w2, iv w3, iv nv, iv kv, iv w0, iv c1v, iv c2v, iv c3v, iv c3v, un, un, un, un, un, un, un] [(.int (4 : Int32))])) rfl (hb hby at_162) rfl (by decide) (cap := 4) (by decide) (by decide) (by decide) (by decide)
        obtain ⟨b13, g13⟩ : ∃ z, z = h0.size := ⟨_, rfl⟩
        rw [← g13] at A13 st13
        have g_b13 : n0 ≤ b13 := Nat.le_trans Z0 (Nat.le_of_eq g13.symm)
        have sz13 := Nat.le_trans Z0 E13.1
        have V13 : AF Z h13 b13 .double 4 (fun _ => (.double 0)) := AF.new A13 rfl
        refine Ends.go (fun _ => st13 _) ?_
        show Ends p.tables e below G (T13.setTop (mkF m 164 #[iv v0, iv v1, iv v2, iv v3, iv ve, iv w0, iv w1, iv w2, iv w3, iv nv, iv kv, iv w0, iv c1v, iv c2v, iv c3v, iv c3v, un, un, un, un, un, un, un] [(.ref b13)]))
        refine Ends.go (fun _ => XS.dup X13.here hx rfl (hb hby at_164) rfl rfl) ?_
        show Ends p.tables e below G (T13.setTop (mkF m 165 #[iv v0, iv v1, iv v2, iv v3, iv ve, iv w0, iv w1, iv w2, iv w3, iv nv, iv kv, iv w0, iv c1v, iv c2v, iv c3v, iv c3v, un, un, un, un, un, un, un] [(.ref b13), (.ref b13)]))
        refine Ends.go (fun _ => XS.iconst X13.here hx rfl (hb hby at_165)) ?_
        show Ends p.tables e below G (T13.setTop (mkF m 166 #[iv v0, iv v1, iv v2, iv v3, iv ve, iv w0, iv w1, iv w2, iv w3, iv nv, iv kv, iv w0, iv c1v, iv c2v, iv c3v, iv c3v, un, un, un, un, un, un, un] [(.int (0 : Int32)), (.ref b13), (.ref b13)]))
        refine Ends.go (fun _ => XS.iload X13.here hx rfl (hb hby at_166) rfl) ?_
        show Ends p.tables e below G (T13.setTop (mkF m 168 #[iv v0, iv v1, iv v2, iv v3, iv ve, iv w0, iv w1, iv w2, iv w3, iv nv, iv kv, iv w0, iv c1v, iv c2v, iv c3v, iv c3v, un, un, un, un, un, un, un] [(.int w0), (.int (0 : Int32)), (.ref b13), (.ref b13)]))
        refine Ends.go (fun _ => XS.i2dS X13.here hx rfl (hb hby at_168) rfl (hDi w0 ua0 hw0 (by omega))) ?_
        show Ends p.tables e below G (T13.setTop (mkF m 169 #[iv v0, iv v1, iv v2, iv v3, iv ve, iv w0, iv w1, iv w2, iv w3, iv nv, iv kv, iv w0, iv c1v, iv c2v, iv c3v, iv c3v, un, un, un, un, un, un, un] [(.double (D ua0)), (.int (0 : Int32)), (.ref b13), (.ref b13)]))
        obtain ⟨T14, h14, X14, e14, W14, V14, st14⟩ := AF.stD V13 X13 hx hZ e13 (j := (0 : Int32)) (i := 0) (by decide) (by decide) (g := (mkF m 169 #[iv v0, iv v1, iv v2, iv v3, iv ve, iv w0, iv w1, iv w2, iv w3, iv nv, iv kv, iv w0, iv c1v, iv c2v, iv c3v, iv c3v, un, un, un, un, un, un, un] [(.double (D ua0)), (.int (0 : Int32)), (.ref b13), (.ref b13)])) rfl rfl (hb hby at_169)
        have sz14 := Nat.le_trans sz13 (Nat.le_of_eq W14.size.symm)
        have N14 := Fr.snoc X14 N0 g_b13
        refine Ends.go (fun _ => st14 _) ?_
        show Ends p.tables e below G (T14.setTop (mkF m 170 #[iv v0, iv v1, iv v2, iv v3, iv ve, iv w0, iv w1, iv w2, iv w3, iv nv, iv kv, iv w0, iv c1v, iv c2v, iv c3v, iv c3v, un, un, un, un, un, un, un] [(.ref b13)]))
        refine Ends.go (fun _ => XS.dup X14.here hx rfl (hb hby at_170) rfl rfl) ?_
        show Ends p.tables e below G (T14.setTop (mkF m 171 #[iv v0, iv v1, iv v2, iv v3, iv ve, iv w0, iv w1, iv w2, iv w3, iv nv, iv kv, iv w0, iv c1v, iv c2v, iv c3v, iv c3v, un, un, un, un, un, un, un] [(.ref b13), (.ref b13)]))
        refine Ends.go (fun _ => XS.iconst X14.here hx rfl (hb hby at_171)) ?_
        show Ends p.tables e below G (T14.setTop (mkF m 172 #[iv v0, iv v1, iv v2, iv v3, iv ve, iv w0, iv w1, iv w2, iv w3, iv nv, iv kv, iv w0, iv c1v, iv c2v, iv c3v, iv c3v, un, un, un, un, un, un, un] [(.int (1 : Int32)), (.ref b13), (.ref b13)]))
        refine Ends.go (fun _ => XS.iload X14.here hx rfl (hb hby at_172) rfl) ?_
        show Ends p.tables e below G (T14.setTop (mkF m 174 #[iv v0, iv v1, iv v2, iv v3, iv ve, iv w0, iv w1, iv w2, iv w3, iv nv, iv kv, iv w0, iv c1v, iv c2v, iv c3v, iv c3v, un, un, un, un, un, un, un] [(.int w1), (.int (1 : Int32)), (.ref b13), (.ref b13)]))
        refine Ends.go (fun _ => XS.i2dS X14.here hx rfl (hb hby at_174) rfl (hDi w1 ua1 hw1 (by omega))) ?_
        show Ends p.tables e below G (T14.setTop (mkF m 175 #[iv v0, iv v1, iv v2, iv v3, iv ve, iv w0, iv w1, iv w2, iv w3, iv nv, iv kv, iv w0, iv c1v, iv c2v, iv c3v, iv c3v, un, un, un, un, un, un, un] [(.double (D ua1)), (.int (1 : Int32)), (.ref b13), (.ref b13)]))
        obtain ⟨T15, h15, X15, e15, W15, V15, st15⟩ := AF.stD V14 X14 hx hZ e14 (j := (1 : Int32)) (i := 1) (by decide) (by decide) (g := (mkF m 175 #[iv v0, iv v1, iv v2, iv v3, iv ve, iv w0, iv w1, iv w2, iv w3, iv nv, iv kv, iv w0, iv c1v, iv c2v, iv c3v, iv c3v, un, un, un, un, un, un, un] [(.double (D ua1)), (.int (1 : Int32)), (.ref b13), (.ref b13)])) rfl rfl (hb hby at_175)
        have sz15 := Nat.le_trans sz14 (Nat.le_of_eq W15.size.symm)
        have N15 := Fr.snoc X15 N14 g_b13
        refine Ends.go (fun _ => st15 _) ?_
        show Ends p.tables e below G (T15.setTop (mkF m 176 #[iv v0, iv v1, iv v2, iv v3, iv ve, iv w0, iv w1, iv w2, iv w3, iv nv, iv kv, iv w0, iv c1v, iv c2v, iv c3v, iv c3v, un, un, un, un, un, un, un] [(.ref b13)]))
        refine Ends.go (fun _ => XS.dup X15.here hx rfl (hb hby at_176) rfl rfl) ?_
        show Ends p.tables e below G (T15.setTop (mkF m 177 #[iv v0, iv v1, iv v2, iv v3, iv ve, iv w0, iv w1, iv w2, iv w3, iv nv, iv kv, iv w0, iv c1v, iv c2v, iv c3v, iv c3v, un, un, un, un, un, un, un] [(.ref b13), (.ref b13)]))
        refine Ends.go (fun _ => XS.iconst X15.here hx rfl (hb hby at_177)) ?_
        show Ends p.tables e below G (T15.setTop (mkF m 178 #[iv v0, iv v1, iv v2, iv v3, iv ve, iv w0, iv w1, iv w2, iv w3, iv nv, iv kv, iv w0, iv c1v, iv c2v, iv c3v, iv c3v, un, un, un, un, un, un, un] [(.int (2 : Int32)), (.ref b13), (.ref b13)]))
        refine Ends.go (fun _ => XS.iload X15.here hx rfl (hb hby at_178) rfl) ?_
        show Ends p.tables e below G (T15.setTop (mkF m 180 #[iv v0, iv v1, iv v2, iv v3, iv ve, iv w0, iv w1, iv w2, iv w3, iv nv, iv kv, iv w0, iv c1v, iv c2v, iv c3v, iv c3v, un, un, un, un, un, un, un] [(.int w2), (.int (2 : Int32)), (.ref b13), (.ref b13)]))
        refine Ends.go (fun _ => XS.i2dS X15.here hx rfl (hb hby at_180) rfl (hDi w2 ua2 hw2 (by omega))) ?_
        show Ends p.tables e below G (T15.setTop (mkF m 181 #[iv v0, iv v1, iv v2, iv v3, iv ve, iv w0, iv w1, iv w2, iv w3, iv nv, iv kv, iv w0, iv c1v, iv c2v, iv c3v, iv c3v, un, un, un, un, un, un, un] [(.double (D ua2)), (.int (2 : Int32)), (.ref b13), (.ref b13)]))
        obtain ⟨T16, h16, X16, e16, W16, V16, st16⟩ := AF.stD V15 X15 hx hZ e15 (j := (2 : Int32)) (i := 2) (by decide) (by decide) (g := (mkF m 181 #[iv v0, iv v1, iv v2, iv v3, iv ve, iv w0, iv w1, iv w2, iv w3, iv nv, iv kv, iv w0, iv c1v, iv c2v, iv c3v, iv c3v, un, un, un, un, un, un, un] [(.double (D ua2)), (.int (2 : Int32)), (.ref b13), (.ref b13)])) rfl rfl (hb hby at_181)
        have sz16 := Nat.le_trans sz15 (Nat.le_of_eq W16.size.symm)
        have N16 := Fr.snoc X16 N15 g_b13
        refine Ends.go (fun _ => st16 _) ?_
        show Ends p.tables e below G (T16.setTop (mkF m 182 #[iv v0, iv v1, iv v2, iv v3, iv ve, iv w0, iv w1, iv w2, iv w3, iv nv, iv kv, iv w0, iv c1v, iv c2v, iv c3v, iv c3v, un, un, un, un, un, un, un] [(.ref b13)]))
        refine Ends.go (fun _ => XS.dup X16.here hx rfl (hb hby at_182) rfl rfl) ?_
        show Ends p.tables e below G (T16.setTop (mkF m 183 #[iv v0, iv v1, iv v2, iv v3, iv ve, iv w0, iv w1, iv w2, iv w3, iv nv, iv kv, iv w0, iv c1v, iv c2v, iv c3v, iv c3v, un, un, un, un, un, un, un] [(.ref b13), (.ref b13)]))
        refine Ends.go (fun _ => XS.iconst X16.here hx rfl (hb hby at_183)) ?_
        show Ends p.tables e below G (T16.setTop (mkF m 184 #[iv v0, iv v1, iv v2, iv v3, iv ve, iv w0, iv w1, iv w2, iv w3, iv nv, iv kv, iv w0, iv c1v, iv c2v, iv c3v, iv c3v, un, un, un, un, un, un, un] [(.int (3 : Int32)), (.ref b13), (.ref b13)]))
        refine Ends.go (fun _ => XS.iload X16.here hx rfl (hb hby at_184) rfl) ?_
        show Ends p.tables e below G (T16.setTop (mkF m 186 #[iv v0, iv v1, iv v2, iv v3, iv ve, iv w0, iv w1, iv w2, iv w3, iv nv, iv kv, iv w0, iv c1v, iv c2v, iv c3v, iv c3v, un, un, un, un, un, un, un] [(.int w3), (.int (3 : Int32)), (.ref b13), (.ref b13)]))
        refine Ends.go (fun _ => XS.i2dS X16.here hx rfl (hb hby at_186) rfl (hDi w3 ua3 hw3 (by omega))) ?_
        show Ends p.tables e below G (T16.setTop (mkF m 187 #[iv v0, iv v1, iv v2, iv v3, iv ve, iv w0, iv w1, iv w2, iv w3, iv nv, iv kv, iv w0, iv c1v, iv c2v, iv c3v, iv c3v, un, un, un, un, un, un, un] [(.double (D ua3)), (.int (3 : Int32)), (.ref b13), (.ref b13)]))
        obtain ⟨T17, h17, X17, e17, W17, V17, st17⟩ := AF.stD V16 X16 hx hZ e16 (j := (3 : Int32)) (i := 3) (by decide) (by decide) (g := (mkF m 187 #[iv v0, iv v1, iv v2, iv v3, iv ve, iv w0, iv w1, iv w2, iv w3, iv nv, iv kv, iv w0, iv c1v, iv c2v, iv c3v, iv c3v, un, un, un, un, un, un, un] [(.double (D ua3)), (.int (3 : Int32)), (.ref b13), (.ref b13)])) rfl rfl (hb hby at_187)
        have sz17 := Nat.le_trans sz16 (Nat.le_of_eq W17.size.symm)
        have N17 := Fr.snoc X17 N16 g_b13
        refine Ends.go (fun _ => st17 _) ?_
        show Ends p.tables e below G (T17.setTop (mkF m 188 #[iv v0, iv v1, iv v2, iv v3, iv ve, iv w0, iv w1, iv w2, iv w3, iv nv, iv kv, iv w0, iv c1v, iv c2v, iv c3v, iv c3v, un, un, un, un, un, un, un] [(.ref b13)]))
        refine Ends.go (fun _ => XS.astore (g := (mkF m 188 #[iv v0, iv v1, iv v2, iv v3, iv ve, iv w0, iv w1, iv w2, iv w3, iv nv, iv kv, iv w0, iv c1v, iv c2v, iv c3v, iv c3v, un, un, un, un, un, un, un] [(.ref b13)])) X17.here hx rfl (hb hby at_188) rfl rfl (l' := #[iv v0, iv v1, iv v2, iv v3, iv ve, iv w0, iv w1, iv w2, iv w3, iv nv, iv kv, iv w0, iv c1v, iv c2v, iv c3v, iv c3v, rv b13, un, un, un, un, un, un]) rfl) ?_
        show Ends p.tables e below G (T17.setTop (mkF m 190 #[iv v0, iv v1, iv v2, iv v3, iv ve, iv w0, iv w1, iv w2, iv w3, iv nv, iv kv, iv w0, iv c1v, iv c2v, iv c3v, iv c3v, rv b13, un, un, un, un, un, un] []))
        exact tail190 _ _ _ _ (own_sm (own_A4 ua0 ua1 ua2 ua3) 4) _ X17 e17 N17 sz17 (AF.congr V17 (fun j hj => match j, hj with | 0, _ => rfl | 1, _ => rfl | 2, _ => rfl | 3, _ => rfl)) (by rw [s4]; exact hc3) rfl
set_option maxRecDepth 65536 in
set_option maxHeartbeats 40000000 in
theorem comes_1 {Post : Tables → Env → Array Value → State → Outcome → State → Prop} (hpost : ∀ tb e args s v u, (limb_1_1.after args s (.returned v) u = true ∧ limb_1_2.after args s (.returned v) u = true ∧ True) → FrameEnd s (.returned v) u (Jvm.fieldLocs frame_1_writes args s ++ Jvm.arrayLocs frame_1_arrays args s ++ Jvm.staticLocs frame_1_statics s) 16 128 → Post tb e args s (.returned v) u) :
    ArmFor flags0 classFile x code maxLocals ret World_1 tables_1 room_1 Calls_1 rest_1 Pre_1 Post := by
  intro l hfl _ _ p e ha hc hk s m args below hf hA hF happ hP
  obtain ⟨hcalls, hrest, hpre⟩ := hP
  obtain ⟨-, -, -, hnamed, -, -, -, hat⟩ := (Spec.applies_iff hf).mp happ
  obtain ⟨hg, hn⟩ := and_e (Cond.before_iff.mp (show (Jvm.Cond.and given_1 narrow_1).before args s = true from hpre))
  obtain ⟨gg1, gg2⟩ := and_e hg
  obtain ⟨gg3, gg4⟩ := and_e gg2
  obtain ⟨gg5, gg6⟩ := and_e gg4
  obtain ⟨gg7, gg8⟩ := and_e gg6
  obtain ⟨gg9, gg10⟩ := and_e gg8
  obtain ⟨w0, w1, w2, w3, w4, rfl⟩ : ∃ w0 w1 w2 w3 w4 : Value, args = #[w0, w1, w2, w3, w4] := by
    have hs : args.size = 5 := by simpa [Cond.value, given_1] using gg1
    obtain ⟨L⟩ := args
    match L, hs with
    | [w0, w1, w2, w3, w4], _ => exact ⟨w0, w1, w2, w3, w4, rfl⟩
  have hw := fun d (hd : d ∈ tables_1) => atoms_spec (ws := Jvm.Cond.code x code maxLocals ret :: tables_1) hat d (List.mem_cons_of_mem _ hd)
  obtain ⟨i0, ei0⟩ := is_v gg3
  obtain rfl : w0 = (.int i0) := Option.some.inj ei0
  obtain ⟨i1, ei1⟩ := is_v gg5
  obtain rfl : w1 = (.int i1) := Option.some.inj ei1
  obtain ⟨i2, ei2⟩ := is_v gg7
  obtain rfl : w2 = (.int i2) := Option.some.inj ei2
  obtain ⟨i3, ei3⟩ := is_v gg9
  obtain rfl : w3 = (.int i3) := Option.some.inj ei3
  obtain ⟨i4, ei4⟩ := is_v gg10
  obtain rfl : w4 = (.int i4) := Option.some.inj ei4
  obtain ⟨n, o, h1, h2, h3, _, L, rfl, ⟨rfl, N⟩, hq⟩ := rm0 l s _ hw tables_1 i0 i1 i2 i3 i4 s.heap s.heap.size (Nat.le_refl _)  p e ha hc hk s m _ below hf ((Spec.applies_iff_loose hf).mp happ).1 ⟨rfl, State.Warmed39.refl s, rfl⟩ trivial
  refine ⟨n, _, h1, h2, h3, hpost _ _ _ _ _ _ ⟨Cond.after_iff.mpr rfl, Cond.after_iff.mpr (eq_i res_at (Term.int_eval (1)) rfl), trivial⟩ ⟨hq.1, hq.2.1, (hq.2.2.sift fun y hy => Or.inr (N y hy)).mono (by decide) (by decide)⟩⟩
theorem main_1_1 : Claimed_1_1 := comes_1 fun _ _ _ _ _ _ h hF => ⟨h.1, hF⟩
theorem main_1_2 : Claimed_1_2 := comes_1 fun _ _ _ _ _ _ h hF => ⟨h.2.1, hF⟩
end Jvm.Pilot.@@N@@
namespace Jvm.Pilot.@@N@@
open Jvm Jvm.ClassFile Sem Op Lib Jvm.Free Jvm.Stand Jvm.Pilot.@@N@@.Jvm.D
/-! MADE BY PROGRAM (witnessworld.py) out of the Statement's table words and the real class files: 11 classes; the members and pool entries that the words name. The judged class is class 1, her method 1. -/
namespace start1
open Jvm.ClassFile
def u (s : String) : CpInfo := .utf8 (stringToUtf16 s)
/-- a pool by its gaps: so many unusable entries, then the entry; so many at the end -/
def gap : Nat → List CpInfo → List CpInfo
  | 0, r => r
  | n + 1, r => .unusable :: gap n r
def poolList (es : List (Nat × CpInfo)) (last : Nat) : List CpInfo := es.foldr (fun e r => gap e.1 (e.2 :: r)) (gap last [])
def pool (es : List (Nat × CpInfo)) (last : Nat) : Array CpInfo := ⟨poolList es last⟩
def fileOf (pool : Array CpInfo) (this : Nat) (attrs : Array Attribute := #[]) (ms : Array MethodInfo := #[]) (fl : Nat := 33) (sup : Nat := 0) (ifs : Array Nat := #[]) (fds : Array FieldInfo := #[]) : ClassFile where
  minorVersion := 0
  majorVersion := 65
  constantPool := pool
  accessFlags := fl
  thisClass := this
  superClass := sup
  interfaces := ifs
  fields := fds
  methods := ms
  attributes := attrs
def plain (name : String) (sup : Option ClassId) : Class where
  name := name
  kind := .ordinary
  loader := none
  accessFlags := 33
  super := sup
  interfaces := #[]
  cf := none
  fields := #[]
  methods := #[]
  instanceTypes := #[]
  staticTypes := #[]
  resolved := #[]
  callSites := []
  init := .initialized
  statics := none
  mirror := none

def pool0 : Array CpInfo := pool [(5, u "<init>"), (0, u "()V"), (1, .class_ 10), (1, u "java/lang/Object")] 113

def k0c0 : Code := { maxStack := 0, maxLocals := 1, code := object_method_1_code, exceptionTable := #[], attributes := #[] }
def k0m0 : Method := { name := "<init>", desc := "()V", sig := { parameters := [], returnType := none }, accessFlags := 1, code := some k0c0 }
/-- java/lang/Object -/
def k0 : Class := { plain "java/lang/Object" none with
  accessFlags := 33
  interfaces := #[]
  cf := some (fileOf pool0 8 #[] #[{ accessFlags := 1, nameIndex := 5, descriptorIndex := 6, attributes := #[] }] 33 0 #[] #[])
  fields := #[]
  methods := #[k0m0]
  instanceTypes := #[]
  staticTypes := #[]
  resolved := Array.replicate 124 none
  statics := none }

def pool1 : Array CpInfo := pool [(2, .class_ 4), (1, u "java/lang/Object"), (0, u "<init>"), (0, u "()V"), (0, .double 4652218415073722368), (1, .long 1024), (1, .class_ 12), (0, u "com/example/bitstrata/bitstrata/bench/Weights"), (0, .methodref 11 14), (0, .nameAndType 5 15), (0, u "([D)V"), (0, .methodref 11 17), (0, .nameAndType 18 19), (0, u "at"), (0, u "(D)I"), (0, .class_ 21), (0, u "com/example/bitstrata/bitstrata/bench/WeightsAtPinLaw"), (2, u "law"), (0, u "(IIIII)Z")] 5

def k1m0 : Method := { name := "<init>", desc := "()V", sig := { parameters := [], returnType := none }, accessFlags := 1, code := none }
def k1c1 : Code := { maxStack := 5, maxLocals := 23, code := code, exceptionTable := #[], attributes := #[] }
def k1m1 : Method := { name := "law", desc := "(IIIII)Z", sig := { parameters := [.int, .int, .int, .int, .int], returnType := some .boolean }, accessFlags := 9, code := some k1c1 }
/-- com/example/bitstrata/bitstrata/bench/WeightsAtPinLaw -/
def k1 : Class := { plain "com/example/bitstrata/bitstrata/bench/WeightsAtPinLaw" (some 0) with
  accessFlags := 49
  interfaces := #[]
  cf := some (fileOf pool1 20 #[] #[{ accessFlags := 1, nameIndex := 5, descriptorIndex := 6, attributes := #[] }, { accessFlags := 9, nameIndex := 24, descriptorIndex := 25, attributes := #[] }] 49 2 #[] #[])
  fields := #[]
  methods := #[k1m0, k1m1]
  instanceTypes := #[]
  staticTypes := #[]
  resolved := Array.replicate 31 none
  statics := none }

def pool2 : Array CpInfo := pool [(1, .methodref 2 3), (0, .class_ 4), (0, .nameAndType 5 6), (0, u "java/lang/Object"), (0, u "<init>"), (0, u "()V"), (0, .fieldref 8 9), (0, .class_ 10), (0, .nameAndType 11 12), (0, u "com/example/bitstrata/bitstrata/bench/Weights"), (0, u "cumulative"), (0, u "[D"), (6, u "([D)V"), (6, u "at"), (0, u "(D)I")] 2

def k2c0 : Code := { maxStack := 4, maxLocals := 5, code := prog_57_method_1_code, exceptionTable := #[], attributes := #[] }
def k2m0 : Method := { name := "<init>", desc := "([D)V", sig := { parameters := [(.array .double)], returnType := none }, accessFlags := 0, code := some k2c0 }
def k2c1 : Code := { maxStack := 5, maxLocals := 8, code := prog_57_method_3_code, exceptionTable := #[], attributes := #[] }
def k2m1 : Method := { name := "at", desc := "(D)I", sig := { parameters := [.double], returnType := some .int }, accessFlags := 0, code := some k2c1 }
/-- com/example/bitstrata/bitstrata/bench/Weights -/
def k2 : Class := { plain "com/example/bitstrata/bitstrata/bench/Weights" (some 0) with
  accessFlags := 48
  interfaces := #[]
  cf := some (fileOf pool2 8 #[] #[{ accessFlags := 0, nameIndex := 5, descriptorIndex := 19, attributes := #[] }, { accessFlags := 0, nameIndex := 26, descriptorIndex := 27, attributes := #[] }] 48 2 #[] #[{ accessFlags := 18, nameIndex := 11, descriptorIndex := 12, attributes := #[] }])
  fields := #[{ name := "cumulative", type := (.array .double), accessFlags := 18, slot := 0, constantValue := 0 }]
  methods := #[k2m0, k2m1]
  instanceTypes := #[(.array .double)]
  staticTypes := #[]
  resolved := Array.replicate 30 none
  statics := none }

def pool3 : Array CpInfo := pool [(1, u "java/lang/Cloneable"), (0, .class_ 1), (0, u "java/lang/Object"), (0, .class_ 3)] 3

/-- java/lang/Cloneable -/
def k3 : Class := { plain "java/lang/Cloneable" (some 0) with
  accessFlags := 1537
  interfaces := #[]
  cf := some (fileOf pool3 2 #[] #[] 1537 4 #[] #[])
  fields := #[]
  methods := #[]
  instanceTypes := #[]
  staticTypes := #[]
  resolved := Array.replicate 8 none
  statics := none }

def pool4 : Array CpInfo := pool [(1, u "java/io/Serializable"), (0, .class_ 1), (0, u "java/lang/Object"), (0, .class_ 3)] 3

/-- java/io/Serializable -/
def k4 : Class := { plain "java/io/Serializable" (some 0) with
  accessFlags := 1537
  interfaces := #[]
  cf := some (fileOf pool4 2 #[] #[] 1537 4 #[] #[])
  fields := #[]
  methods := #[]
  instanceTypes := #[]
  staticTypes := #[]
  resolved := Array.replicate 8 none
  statics := none }

/-- the primitive byte -/
def k5 : Class := { plain "byte" none with kind := .primitive 'B', accessFlags := 0x411 }
/-- [B -/
def k6 : Class := { plain "[B" (some 0) with kind := .array 5 .byte, interfaces := #[3, 4], accessFlags := 1041 }

/-- the primitive double -/
def k7 : Class := { plain "double" none with kind := .primitive 'D', accessFlags := 0x411 }
/-- [D -/
def k8 : Class := { plain "[D" (some 0) with kind := .array 7 .double, interfaces := #[3, 4], accessFlags := 1041 }

/-- the primitive int -/
def k9 : Class := { plain "int" none with kind := .primitive 'I', accessFlags := 0x411 }
/-- [I -/
def k10 : Class := { plain "[I" (some 0) with kind := .array 9 .int, interfaces := #[3, 4], accessFlags := 1041 }

def heap : Heap := #[]
def classes : Array Class := #[k0, k1, k2, k3, k4, k5, k6, k7, k8, k9, k10]
def interned : List (Array UInt16 × Addr) := []
def slotsUsed : Nat := 0
def theMethod : MethodId := ⟨1, 1⟩
def args0 : Array Value := #[.int 5, .int 6, .int 7, .int 1, .int 3]
def aboutOver (below : List Frame) : State where
  vm := { classes := classes, interned := interned.toArray }
  heap := heap
  slotsUsed := slotsUsed
  threads := #[{ frames := .invoking theMethod args0 :: below }]
def below0 : List Frame := [.native { method := ⟨0, 0⟩, args := #[] }]
def about1 : State := aboutOver below0
def p0 : Program := .bare "" "" ""
def e0 : Env := launch0.env 0 0 0
theorem w_frames : about1.frames = Frame.invoking theMethod args0 :: below0 := rfl
set_option maxRecDepth 65536 in
theorem w_args : argsFit about1.vm theMethod args0 = true := by decide +kernel
set_option maxRecDepth 65536 in
theorem w_heap : heapFits about1 = true := by decide +kernel
set_option maxRecDepth 65536 in
theorem w_runnable : about1.curStatus? = some .runnable := by decide +kernel
set_option maxRecDepth 65536 in
theorem w_alone : about1.alone = true := by decide +kernel
set_option maxRecDepth 65536 in
theorem w_named : about1.methodNamed? x = some theMethod := by decide +kernel
set_option maxRecDepth 65536 in
theorem w_hears : about1.hears theMethod below0 = true := by decide +kernel
set_option maxRecDepth 65536 in
theorem w_ripe : about1.ripe theMethod args0 below0 = true := by decide +kernel
theorem w_running : about1.status = .running := rfl
set_option maxRecDepth 65536 in
theorem w_room : about1.hasRoom e0.platform room_1 = true :=
  launch0.hasRoom_least _ room_1 (by decide +kernel) (by decide +kernel) (by decide +kernel) (by decide +kernel) (by decide +kernel) (by decide +kernel)
theorem allAtoms_all (ts : List Jvm.Cond) (a : Array Jvm.Value) (st : Jvm.State) : (allAtoms ts).before a st = ts.all (fun c => c.before a st) := by
  induction ts with
  | nil => rfl
  | cons c t ih =>
    show (Jvm.Cond.and c (allAtoms t)).before a st = _
    rw [Jvm.Cond.before_and, ih, List.all_cons]
def words1 : List Jvm.Cond := Jvm.Cond.code x code maxLocals ret :: tables_1
/-- a 'code' word, met by the world's own term for the bytes: nothing is compared byte by byte -/
theorem code_word {y : MethodName} {bytes : ByteArray} {mx : Nat} {rt : Option FieldType} {a : Array Value} {s : State} {m : MethodId} {meth : Method} {c : Code} (h1 : s.methodNamed? y = some m) (h2 : s.vm.method? m = some meth) (h3 : meth.code = some c) (h4 : c.code = bytes)
    (h5 : (c.maxLocals == mx && c.exceptionTable.isEmpty && decide (c.maxStack ≤ mostOperands) && decide (meth.sig.returnType = rt) && !meth.locks && decide (parseMethodDescriptor y.desc = some meth.sig)) = true) : (Jvm.Cond.code y bytes mx rt).before a s = true := by
  simp only [Bool.and_eq_true, beq_iff_eq, Bool.not_eq_true', decide_eq_true_eq] at h5
  obtain ⟨⟨⟨⟨⟨g1, g2⟩, g3⟩, g4⟩, g5⟩, g6⟩ := h5
  simp [Cond.before, Cond.holds, Cond.value, h1, h2, h3, h4, g1, g2, g3, g4, g5, g6]
def isCode : Jvm.Cond → Bool
  | .code _ _ _ _ => true
  | _ => false
theorem all_split {L : List Jvm.Cond} {P : Jvm.Cond → Bool} (h1 : L.all (fun c => isCode c || P c) = true) (h2 : ∀ c ∈ L.filter isCode, P c = true) : L.all P = true := by
  refine List.all_eq_true.mpr fun c hc => ?_
  have h := List.all_eq_true.mp h1 c hc
  rcases Bool.eq_false_or_eq_true (isCode c) with hi | hi
  · exact h2 c (List.mem_filter.mpr ⟨hc, hi⟩)
  · simpa [hi] using h
set_option maxRecDepth 65536 in
theorem w_c0 : (Jvm.Cond.code x code maxLocals ret).before args0 about1 = true := code_word (m := ⟨1, 1⟩) (meth := k1m1) (c := k1c1) (by decide +kernel) rfl rfl rfl (by decide +kernel)
set_option maxRecDepth 65536 in
theorem w_c1 : (Jvm.Cond.code ({ cls := "com/example/bitstrata/bitstrata/bench/Weights", name := "<init>", desc := "([D)V" } : Jvm.MethodName) prog_57_method_1_code (5 : Nat) (Option.none : Option Jvm.ClassFile.FieldType)).before args0 about1 = true := code_word (m := ⟨2, 0⟩) (meth := k2m0) (c := k2c0) (by decide +kernel) rfl rfl rfl (by decide +kernel)
set_option maxRecDepth 65536 in
theorem w_c2 : (Jvm.Cond.code ({ cls := "java/lang/Object", name := "<init>", desc := "()V" } : Jvm.MethodName) object_method_1_code (1 : Nat) (Option.none : Option Jvm.ClassFile.FieldType)).before args0 about1 = true := code_word (m := ⟨0, 0⟩) (meth := k0m0) (c := k0c0) (by decide +kernel) rfl rfl rfl (by decide +kernel)
set_option maxRecDepth 65536 in
theorem w_c3 : (Jvm.Cond.code ({ cls := "com/example/bitstrata/bitstrata/bench/Weights", name := "at", desc := "(D)I" } : Jvm.MethodName) prog_57_method_3_code (8 : Nat) (Option.some Jvm.ClassFile.FieldType.int)).before args0 about1 = true := code_word (m := ⟨2, 1⟩) (meth := k2m1) (c := k2c1) (by decide +kernel) rfl rfl rfl (by decide +kernel)
def codes1 : List Jvm.Cond := [Jvm.Cond.code x code maxLocals ret, Jvm.Cond.code ({ cls := "com/example/bitstrata/bitstrata/bench/Weights", name := "<init>", desc := "([D)V" } : Jvm.MethodName) prog_57_method_1_code (5 : Nat) (Option.none : Option Jvm.ClassFile.FieldType), Jvm.Cond.code ({ cls := "java/lang/Object", name := "<init>", desc := "()V" } : Jvm.MethodName) object_method_1_code (1 : Nat) (Option.none : Option Jvm.ClassFile.FieldType), Jvm.Cond.code ({ cls := "com/example/bitstrata/bitstrata/bench/Weights", name := "at", desc := "(D)I" } : Jvm.MethodName) prog_57_method_3_code (8 : Nat) (Option.some Jvm.ClassFile.FieldType.int)]
set_option maxRecDepth 65536 in
theorem codes_eq : words1.filter isCode = codes1 := rfl
theorem w_codes : ∀ c ∈ words1.filter isCode, c.before args0 about1 = true := by
  rw [codes_eq]
  intro c hc
  simp only [codes1, List.mem_cons, List.not_mem_nil, or_false] at hc
  rcases hc with rfl | rfl | rfl | rfl
  · exact w_c0
  · exact w_c1
  · exact w_c2
  · exact w_c3
set_option maxRecDepth 65536 in
theorem w_t1 : words1.all (fun c => isCode c || c.before args0 about1) = true := by decide +kernel
theorem w_tables : (allAtoms (Jvm.Cond.code x code maxLocals ret :: tables_1)).before args0 about1 = true := by
  rw [allAtoms_all]
  show words1.all (fun c => c.before args0 about1) = true
  refine all_split ?_ w_codes
  rw [w_t1]
set_option maxRecDepth 65536 in
theorem w_case : (Jvm.Cond.and given_1 narrow_1).before args0 about1 = true := by decide +kernel
theorem w_applies : (headSpec (Jvm.Cond.code x code maxLocals ret :: tables_1) room_1).applies x e0.platform about1 = true :=
  (Spec.applies_iff w_frames).mpr ⟨w_running, w_runnable, w_alone, w_named, w_hears, w_ripe, w_room, w_tables⟩
theorem atStart : AtStart classFile x code maxLocals ret World_1 tables_1 room_1 Calls_1 rest_1 Pre_1 launch0 p0 e0 about1 theMethod args0 below0 :=
  ⟨lists_1, trivial, launch0.admits_env _ _ _, launch0.least_env, fairChoices_fair.cas, fairChoices_fair.clock, w_frames, w_args, w_heap, w_applies, trivial, trivial, w_case⟩
end start1
theorem witness_1 : WitnessClaimed_1 := ⟨start1.p0, start1.e0, start1.about1, start1.theMethod, start1.args0, start1.below0, start1.atStart⟩
end Jvm.Pilot.@@N@@
