import JvmDerived
import JvmDerived.Pilot.@@N@@Statement
import JvmDerived.Pilot.@@N@@Code
set_option linter.unusedVariables false
set_option linter.unusedSimpArgs false
namespace Jvm.RoadKit
open Sem ClassFile Op Lib Jvm.Stand Jvm.Free Jvm.LawKit
section New
variable {p : Program} {l : Launch} {e : Env} {R : Room} {s : State} {m : MethodId} {args : Array Value} {below : List Frame} {meth : Method} {c : Code} {T : State} {locs : List Loc} {cells slots : Nat}
theorem retI (X : Stand p l e R s m args below meth c T locs cells slots) (hx : p.tables.exec = Jvm.exec) {pc : Nat} {Ls : Array Slot} {z : Int32} {rest : List Value} (hret : meth.sig.returnType = some .int) (hd : decode c.code pc = .ok (.ireturn, 1)) {fs : List Frame}
    (hl : ∀ (f : JFrame) (acts : List Action), f.method = m → f.locked = none → f.entered = [] → (doReturn e (T.setTop f) acts (some (.int z))).1 = T.setFrames fs) : Steps p.tables e below (T.setTop (mkF m pc Ls (.int z :: rest))) (T.setFrames fs) := by
  have hm' : T.vm.method? m = some meth := X.method'
  have hn : narrow .int (.int z) = .int z := rfl
  show Steps p.tables e below (T.setTop { method := m, pc := pc, locals := Ls, stack := _ :: rest, locked := none }) _
  jvm_step X.here [X.here.top, hx, hd, hm', hret, hn]
  first | (intro acts; rw [hl _ acts rfl rfl rfl]) | rw [hl _ _ rfl rfl rfl]
  exact Steps.refl _
end New
end Jvm.RoadKit
namespace Jvm.Pilot.@@N@@
open Jvm Jvm.ClassFile Sem Op Lib Jvm.Free Jvm.Stand Jvm.LawKit Jvm.RoadKit Bundle Jvm.Pilot.@@N@@.Jvm.D
abbrev un : Slot := .unset
theorem own_tn {j : Int32} {i : Nat} (hj : j.toInt = (i : Int)) : j.toNatClampNeg = i := by
  simp only [Int32.toNatClampNeg, hj]; rfl
theorem own_inb {j : Int32} {i n k : Nat} (hj : j.toInt = (i : Int)) (hi : i < n) (hn : k = n) : ¬ (j < 0 ∨ k ≤ j.toNatClampNeg) := by
  rw [own_tn hj, hn]
  rintro (h | h)
  · rw [Int32.lt_iff_toInt_lt, hj] at h
    have e0 : (0 : Int32).toInt = 0 := rfl
    omega
  · omega
theorem own_selP {s : State} {a1 a2 : Array Value} {y : MethodName} {n : Nat} (wi : (Jvm.Cond.instantiable y.cls n).before a1 s = true) (hpriv : s.PrivateAt y) (hinst : (Jvm.Cond.instanceMethod y).before a2 s = true) (hy : y.cls ≠ "java/lang/invoke/MethodHandle" ∧ y.cls ≠ "java/lang/invoke/VarHandle") : (Jvm.Cond.selects y.cls y y).before a2 s = true := by
  obtain ⟨c, k, h1, h2, h3, h4, -⟩ := Cond.instantiable_spec wi
  exact selects_self_of_private h1 h2 (by simp at h4; exact h4.1) hpriv hinst hy
def Ends (tb : Tables) (e : Env) (below : List Frame) (G : State → Outcome → Prop) (S : State) : Prop := ∃ s₂ o, Steps tb e below S s₂ ∧ s₂.status = .running ∧ Ended s₂ below o ∧ G s₂ o
section OwnEnds
variable {tb : Tables} {e : Env} {below : List Frame} {G : State → Outcome → Prop} {S S' : State}
theorem Ends.go (h : ∀ t, Steps tb e below S' t → Steps tb e below S t) (k : Ends tb e below G S') : Ends tb e below G S := by
  obtain ⟨s₂, o, a, b⟩ := k
  exact ⟨s₂, o, h _ a, b⟩
theorem Ends.any (h : ∀ G', (∀ s₂ o, G s₂ o → G' s₂ o) → Ends tb e below G' S) : Ends tb e below G S := h G fun _ _ k => k
end OwnEnds
section OwnFin
variable {p : Program} {l : Launch} {e : Env} {R : Room} {s : State} {m : MethodId} {args : Array Value} {below : List Frame} {meth : Method} {c : Code} {T : State} {locs : List Loc} {cells slots : Nat} {G : State → Outcome → Prop}
theorem own_finI (X : Stand p l e R s m args below meth c T locs cells slots) (hx : p.tables.exec = Jvm.exec) {pc : Nat} {Ls : Array Slot} {z : Int32} {rest : List Value} (hret : meth.sig.returnType = some .int) (hlk : meth.locks = false) (hd : decode c.code pc = .ok (.ireturn, 1)) {Q : Option Value → Heap → List Loc → Prop} {C K : Nat}
    (hG : ∀ s₂ o, (∃ v L, o = .returned v ∧ Q v s₂.heap L ∧ FrameEnd s o s₂ L C K) → G s₂ o) (hC : cells ≤ C) (hK : slots ≤ K) (hQ : Q (some (.int z)) T.heap locs) : Ends p.tables e below G (T.setTop (mkF m pc Ls (.int z :: rest))) := by
  obtain ⟨fs, hr, hrun, hended, hW, hsame⟩ := X.leave (v := some (.int z)) (fun h => by rw [hret] at h; cases h)
  exact ⟨_, _, retI X hx hret hd hr, hrun, hended, hG _ _ ⟨_, _, rfl, hQ, ⟨_, rfl⟩, hW, hsame.mono hC hK⟩⟩
theorem own_finS (X : Stand p l e R s m args below meth c T locs cells slots) (hx : p.tables.exec = Jvm.exec) {t : FieldType} {pc : Nat} {Ls : Array Slot} {z : Int32} {rest : List Value} (hret : meth.sig.returnType = some t) (ht : t = .boolean ∨ t = .byte ∨ t = .char ∨ t = .short) (hlk : meth.locks = false) (hd : decode c.code pc = .ok (.ireturn, 1)) {Q : Option Value → Heap → List Loc → Prop} {C K : Nat}
    (hG : ∀ s₂ o, (∃ v L, o = .returned v ∧ Q v s₂.heap L ∧ FrameEnd s o s₂ L C K) → G s₂ o) (hC : cells ≤ C) (hK : slots ≤ K) (hQ : Q (some (.int (nar t z))) T.heap locs) : Ends p.tables e below G (T.setTop (mkF m pc Ls (.int z :: rest))) := by
  obtain ⟨fs, hr, hrun, hended, hW, hsame⟩ := X.leave (v := some (.int (nar t z))) (fun h => by rw [hret] at h; cases h)
  exact ⟨_, _, retN X hx (t := t) hret ht hd hr, hrun, hended, hG _ _ ⟨_, _, rfl, hQ, ⟨_, rfl⟩, hW, hsame.mono hC hK⟩⟩
theorem own_finN (X : Stand p l e R s m args below meth c T locs cells slots) (hx : p.tables.exec = Jvm.exec) {pc : Nat} {Ls : Array Slot} (hret : meth.sig.returnType = none) (hlk : meth.locks = false) (hd : decode c.code pc = .ok (.return_, 1)) {Q : Option Value → Heap → List Loc → Prop} {C K : Nat}
    (hG : ∀ s₂ o, (∃ v L, o = .returned v ∧ Q v s₂.heap L ∧ FrameEnd s o s₂ L C K) → G s₂ o) (hC : cells ≤ C) (hK : slots ≤ K) (hQ : Q none T.heap locs) : Ends p.tables e below G (T.setTop (mkF m pc Ls [])) := by
  obtain ⟨fs, hr, hrun, hended, hW, hsame⟩ := X.leave (v := none) (fun _ => rfl)
  exact ⟨_, _, X.returnOut hx hret hd hr, hrun, hended, hG _ _ ⟨_, _, rfl, hQ, ⟨_, rfl⟩, hW, hsame.mono hC hK⟩⟩
end OwnFin
/-- an array by what each place holds -/
def AF (Z : State) (h : Heap) (a : Addr) (ty : FieldType) (n : Nat) (f : Nat → Value) : Prop := ∃ c : Cell, Arr Z h a c ty ∧ c.slots.size = n ∧ ∀ j, j < n → c.slots[j]? = some (f j)
section OwnAF
variable {Z : State} {h h' : Heap} {a b : Addr} {ty : FieldType} {n sl : Nat} {f g : Nat → Value} {v : Value} {ws : List Addr}
theorem AF.lt (F : AF Z h a ty n f) : a < h.size := by obtain ⟨c, A, -⟩ := F; exact A.lt
theorem AF.ext (F : AF Z h a ty n f) (E : Ext h h') : AF Z h' a ty n f := by obtain ⟨c, A, r⟩ := F; exact ⟨c, A.ext E, r⟩
theorem AF.other (F : AF Z h b ty n f) (W : Wr h h' a sl v) (q : b ≠ a) : AF Z h' b ty n f := by obtain ⟨c, A, r⟩ := F; exact ⟨c, A.other W q, r⟩
theorem AF.keep (F : AF Z h a ty n f) (K : Keep h h' ws) (q : a ∉ ws) : AF Z h' a ty n f := by obtain ⟨c, A, r⟩ := F; exact ⟨c, ⟨K.2.1 a c A.1 q, A.2⟩, r⟩
theorem AF.congr (F : AF Z h a ty n f) (q : ∀ j, j < n → f j = g j) : AF Z h a ty n g := by obtain ⟨c, A, r, u⟩ := F; exact ⟨c, A, r, fun j hj => by rw [u j hj, q j hj]⟩
theorem AF.new {k : ClassId} {z : Int32} (A : Arr Z h a (newA k ty z) ty) (q : z.toNatClampNeg = n) : AF Z h a ty n (fun _ => defaultValue ty) := ⟨_, A, by rw [sz_new]; exact q, fun i hi => by
  rw [← q] at hi; simp [newA, hi]⟩
theorem AF.set (F : AF Z h a ty n f) (W : Wr h h' a sl v) (hs : sl < n) : AF Z h' a ty n (fun k => if k = sl then v else f k) := by
  obtain ⟨c, A, r, u⟩ := F
  refine ⟨_, A.same W, by rw [sz_set]; exact r, fun j hj => ?_⟩
  by_cases q : j = sl
  · subst q; simp [Cell.setSlot, r, hj]
  · have := u j hj
    simp only [Cell.setSlot, if_neg q]
    rw [Array.getElem?_setIfInBounds_ne (fun z => q z.symm)]; exact this
variable {p : Program} {l : Launch} {e : Env} {R : Room} {s : State} {m : MethodId} {args : Array Value} {below : List Frame} {meth : Method} {c : Code} {T : State} {locs : List Loc} {cells slots : Nat}
theorem AF.ldB (F : AF Z h a .byte n f) (X : Stand p l e R s m args below meth c T locs cells slots) (hx : p.tables.exec = Jvm.exec) (hZ : Z.Warmed39 s.vm) (eT : T.heap = h) {j : Int32} {i : Nat} (hj : j.toInt = (i : Int)) (hi : i < n) {v : Value} (hv : f i = v) {g : JFrame} (hg : g.method = m) {rest : List Value} (hs : g.stack = .int j :: .ref a :: rest) (hd : decode c.code g.pc = .ok (.baload, 1)) (target : State)
    (k : Steps p.tables e below (T.setTop { g with pc := g.pc + 1, stack := v :: rest }) target) : Steps p.tables e below (T.setTop g) target := by
  obtain ⟨cl, A, r, u⟩ := F
  exact X.baloadBytes hx (by rw [eT]; exact A.1) (State.isArrayOf_alike hZ.alike A.2.1) A.2.2 (own_inb hj hi r) (by rw [own_tn hj, u i hi, hv]) hg hs hd _ k
theorem AF.ldC (F : AF Z h a .char n f) (X : Stand p l e R s m args below meth c T locs cells slots) (hx : p.tables.exec = Jvm.exec) (hZ : Z.Warmed39 s.vm) (eT : T.heap = h) {j : Int32} {i : Nat} (hj : j.toInt = (i : Int)) (hi : i < n) {v : Value} (hv : f i = v) {g : JFrame} (hg : g.method = m) {rest : List Value} (hs : g.stack = .int j :: .ref a :: rest) (hd : decode c.code g.pc = .ok (.caload, 1)) (target : State)
    (k : Steps p.tables e below (T.setTop { g with pc := g.pc + 1, stack := v :: rest }) target) : Steps p.tables e below (T.setTop g) target := by
  obtain ⟨cl, A, r, u⟩ := F
  exact X.caload hx (by rw [eT]; exact A.1) (State.isArrayOf_alike hZ.alike A.2.1) A.2.2 (own_inb hj hi r) (by rw [own_tn hj, u i hi, hv]) hg hs hd _ k
theorem AF.ldJ (F : AF Z h a .long n f) (X : Stand p l e R s m args below meth c T locs cells slots) (hx : p.tables.exec = Jvm.exec) (hZ : Z.Warmed39 s.vm) (eT : T.heap = h) {j : Int32} {i : Nat} (hj : j.toInt = (i : Int)) (hi : i < n) {v : Value} (hv : f i = v) {g : JFrame} (hg : g.method = m) {rest : List Value} (hs : g.stack = .int j :: .ref a :: rest) (hd : decode c.code g.pc = .ok (.laload, 1)) (target : State)
    (k : Steps p.tables e below (T.setTop { g with pc := g.pc + 1, stack := v :: rest }) target) : Steps p.tables e below (T.setTop g) target := by
  obtain ⟨cl, A, r, u⟩ := F
  exact X.laload hx (by rw [eT]; exact A.1) (State.isArrayOf_alike hZ.alike A.2.1) A.2.2 (own_inb hj hi r) (by rw [own_tn hj, u i hi, hv]) hg hs hd _ k
theorem AF.len (F : AF Z h a ty n f) (X : Stand p l e R s m args below meth c T locs cells slots) (hx : p.tables.exec = Jvm.exec) (hZ : Z.Warmed39 s.vm) (eT : T.heap = h) {z : Int32} (hz : n.toInt32 = z) {g : JFrame} (hg : g.method = m) {rest : List Value} (hs : g.stack = .ref a :: rest) (hd : decode c.code g.pc = .ok (.arraylength, 1)) (target : State)
    (k : Steps p.tables e below (T.setTop { g with pc := g.pc + 1, stack := .int z :: rest }) target) : Steps p.tables e below (T.setTop g) target := by
  obtain ⟨cl, A, r, u⟩ := F
  subst hz r
  exact X.arraylength hx (by rw [eT]; exact A.1) (State.isArrayOf_alike hZ.alike A.2.1) hg hs hd _ k
theorem AF.stB (F : AF Z h a .byte n f) (X : Stand p l e R s m args below meth c T locs cells slots) (hx : p.tables.exec = Jvm.exec) (hZ : Z.Warmed39 s.vm) (eT : T.heap = h) {j x : Int32} {i : Nat} (hj : j.toInt = (i : Int)) (hi : i < n) {g : JFrame} (hg : g.method = m) {rest : List Value} (hs : g.stack = .int x :: .int j :: .ref a :: rest) (hd : decode c.code g.pc = .ok (.bastore, 1)) :
    ∃ T' h', Stand p l e R s m args below meth c T' (locs ++ [⟨a, i⟩]) cells slots ∧ T'.heap = h' ∧ Wr h h' a i (.int (nar .byte x)) ∧ AF Z h' a .byte n (fun k => if k = i then .int (nar .byte x) else f k) ∧ ∀ target, Steps p.tables e below (T'.setTop { g with pc := g.pc + 1, stack := rest }) target → Steps p.tables e below (T.setTop g) target := by
  have F' := F
  obtain ⟨cl, A, r, u⟩ := F
  obtain ⟨T', h', X', e', W', st⟩ := RoadKit.stB X hx hZ eT A (own_inb hj hi r) hg hs hd
  rw [own_tn hj] at X' W'
  exact ⟨T', h', X', e', W', F'.set W' hi, st⟩
theorem AF.stC (F : AF Z h a .char n f) (X : Stand p l e R s m args below meth c T locs cells slots) (hx : p.tables.exec = Jvm.exec) (hZ : Z.Warmed39 s.vm) (eT : T.heap = h) {j x : Int32} {i : Nat} (hj : j.toInt = (i : Int)) (hi : i < n) {g : JFrame} (hg : g.method = m) {rest : List Value} (hs : g.stack = .int x :: .int j :: .ref a :: rest) (hd : decode c.code g.pc = .ok (.castore, 1)) :
    ∃ T' h', Stand p l e R s m args below meth c T' (locs ++ [⟨a, i⟩]) cells slots ∧ T'.heap = h' ∧ Wr h h' a i (.int (nar .char x)) ∧ AF Z h' a .char n (fun k => if k = i then .int (nar .char x) else f k) ∧ ∀ target, Steps p.tables e below (T'.setTop { g with pc := g.pc + 1, stack := rest }) target → Steps p.tables e below (T.setTop g) target := by
  have F' := F
  obtain ⟨cl, A, r, u⟩ := F
  obtain ⟨T', h', X', e', W', st⟩ := RoadKit.stC X hx hZ eT A (own_inb hj hi r) hg hs hd
  rw [own_tn hj] at X' W'
  exact ⟨T', h', X', e', W', F'.set W' hi, st⟩
theorem AF.stJ (F : AF Z h a .long n f) (X : Stand p l e R s m args below meth c T locs cells slots) (hx : p.tables.exec = Jvm.exec) (hZ : Z.Warmed39 s.vm) (eT : T.heap = h) {j : Int32} {x : Int64} {i : Nat} (hj : j.toInt = (i : Int)) (hi : i < n) {g : JFrame} (hg : g.method = m) {rest : List Value} (hs : g.stack = .long x :: .int j :: .ref a :: rest) (hd : decode c.code g.pc = .ok (.lastore, 1)) :
    ∃ T' h', Stand p l e R s m args below meth c T' (locs ++ [⟨a, i⟩]) cells slots ∧ T'.heap = h' ∧ Wr h h' a i (.long x) ∧ AF Z h' a .long n (fun k => if k = i then .long x else f k) ∧ ∀ target, Steps p.tables e below (T'.setTop { g with pc := g.pc + 1, stack := rest }) target → Steps p.tables e below (T.setTop g) target := by
  have F' := F
  obtain ⟨cl, A, r, u⟩ := F
  obtain ⟨T', h', X', e', W', st⟩ := RoadKit.stJ X hx hZ eT A (own_inb hj hi r) hg hs hd
  rw [own_tn hj] at X' W'
  exact ⟨T', h', X', e', W', F'.set W' hi, st⟩
end OwnAF
theorem own_lt {x y : Int32} {a b : Nat} (hx : x.toInt = (a : Int)) (hy : y.toInt = (b : Int)) : x < y ↔ a < b := by rw [Int32.lt_iff_toInt_lt, hx, hy]; omega
theorem own_eqn {x y : Int32} {a b : Nat} (hx : x.toInt = (a : Int)) (hy : y.toInt = (b : Int)) : x = y ↔ a = b := by rw [← Int32.toInt_inj, hx, hy]; omega
theorem own_add {x y : Int32} {a b : Nat} (hx : x.toInt = (a : Int)) (hy : y.toInt = (b : Int)) (h : a + b < 2147483648) : (x + y).toInt = ((a + b : Nat) : Int) := by
  have q1 := c_iadd x y
  have q2 := rng32 (x + y)
  omega
theorem own_iremM (x y : Int32) : x - (x / y) * y = x % y := by
  apply Int32.toInt_inj.mp
  have h1 := Int32.le_toInt (x % y)
  have h2 := Int32.toInt_lt (x % y)
  rw [Int32.toInt_sub, Int32.toInt_mul, Int32.toInt_div, Int.bmod_mul_bmod, Int.sub_bmod_bmod, Int.mul_comm (x.toInt.tdiv y.toInt), ← Int.tmod_def, ← Int32.toInt_mod]
  exact Int.bmod_eq_of_le_mul_two (by omega) (by omega)
theorem own_iremV {x y : Int32} {b : Nat} (hx : 0 ≤ x.toInt) (hy : y.toInt = (b : Int)) : (x - (x / y) * y).toInt = x.toInt % (b : Int) := by
  rw [own_iremM]; exact (c_irem x y b hy).1 hx
theorem own_irem {x y : Int32} {b : Nat} (hx : 0 ≤ x.toInt) (hy : y.toInt = (b : Int)) (hb : 0 < b) : ∃ r : Nat, r < b ∧ (x - (x / y) * y).toInt = (r : Int) := by
  have h := own_iremV hx hy
  have h1 := Int.emod_nonneg x.toInt (b := (b : Int)) (by omega)
  have h2 := Int.emod_lt_of_pos x.toInt (b := (b : Int)) (by omega)
  exact ⟨(x.toInt % (b : Int)).toNat, by omega, by omega⟩
theorem own_mask31 (x : Int32) : 0 ≤ (x &&& 2147483647).toInt := by
  have h := c_mask x 2147483647 31 (by decide) (by decide)
  rw [h]; exact Int.emod_nonneg _ (by decide)
theorem own_ne0 {y : Int32} {b : Nat} (hy : y.toInt = (b : Int)) (hb : 0 < b) : y ≠ 0 := fun h => by
  subst h
  have : (0 : Int32).toInt = 0 := rfl
  omega
theorem own_neA {Z : State} {h : Heap} {a b : Addr} {C : String} {a0 : Array Value} {k n : Nat} {ty : FieldType} {f : Nat → Value} (F : Exa Z h a C) (wi : (Jvm.Cond.instantiable C k).before a0 Z = true) (G : AF Z h b ty n f) : b ≠ a := by
  obtain ⟨c, A, -⟩ := G
  exact Ne.symm (ne_arr F wi A)
/-- the place of VALUES that a byte names -/
def own_ix (b : Int32) : Nat := (b &&& 255).toInt.toNat
theorem own_ixI (b : Int32) : (b &&& (255 : Int32)).toInt = (own_ix b : Int) := by
  have h := c_mask b 255 8 (by decide) (by decide)
  have h1 := Int.emod_nonneg b.toInt (b := ((2 ^ 8 : Nat) : Int)) (by decide)
  show _ = ((b &&& 255).toInt.toNat : Int)
  omega
theorem own_ixL (b : Int32) : own_ix b < 256 := by
  have h := c_mask b 255 8 (by decide) (by decide)
  have h1 := Int.emod_lt_of_pos b.toInt (b := ((2 ^ 8 : Nat) : Int)) (by decide)
  have h2 := own_ixI b
  have e : ((2 ^ 8 : Nat) : Int) = 256 := rfl
  omega
theorem own_ixV (b : Int32) : (own_ix b : Int) = b.toInt % 256 := by
  rw [← own_ixI, c_mask b 255 8 (by decide) (by decide)]; rfl
theorem own_ixn (x : Int32) : own_ix (nar .byte x) = own_ix x := by
  have h := c_i2b x
  have h1 := own_ixV x
  have h2 := own_ixV (nar .byte x)
  have h3 : (nar .byte x).toInt = x.toInt8.toInt32.toInt := rfl
  omega
theorem own_i2b {x : Int32} {k : Nat} (hx : x.toInt = (k : Int)) (hk : k < 128) : x.toInt8.toInt32 = x := by
  have h := c_i2b x
  apply Int32.toInt_inj.mp
  omega
def own_stp (VT : Nat → Int32) (a : Nat × Nat × Int32) (b : Int32) : Option (Nat × Nat × Int32) := if a.2.1 = 0 ∧ ¬ VT (own_ix b) < 0 then some (a.1 + 1, 0, VT (own_ix b)) else if b = 61 ∧ a.2.1 < 2 then some (a.1, a.2.1 + 1, a.2.2) else if b = 32 ∨ b = 9 ∨ b = 10 ∨ b = 13 then some a else none
def own_tk (VT : Nat → Int32) (F : Nat → Int32) : Nat × Nat × Int32 → Nat → Nat → Option (Nat × Nat × Int32)
  | a, _, 0 => some a
  | a, i, k + 1 => (own_stp VT a (F i)).bind fun a' => own_tk VT F a' (i + 1) k
theorem own_tk_add (VT F : Nat → Int32) : ∀ (k : Nat) (a : Nat × Nat × Int32) (i j : Nat), own_tk VT F a i (k + j) = (own_tk VT F a i k).bind fun a' => own_tk VT F a' (i + k) j
  | 0, a, i, j => by rw [Nat.zero_add]; rfl
  | k + 1, a, i, j => by
    rw [show k + 1 + j = (k + j) + 1 by omega]
    show ((own_stp VT a (F i)).bind fun a' => own_tk VT F a' (i + 1) (k + j)) = ((own_stp VT a (F i)).bind fun a' => own_tk VT F a' (i + 1) k).bind _
    cases own_stp VT a (F i) with
    | none => rfl
    | some a' =>
      show own_tk VT F a' (i + 1) (k + j) = (own_tk VT F a' (i + 1) k).bind _
      rw [own_tk_add VT F k a' (i + 1) j, show i + 1 + k = i + (k + 1) by omega]
theorem own_tk_congr (VT F F' : Nat → Int32) (k : Nat) : ∀ (a : Nat × Nat × Int32) (i : Nat), (∀ j, i ≤ j → j < i + k → F j = F' j) → own_tk VT F a i k = own_tk VT F' a i k := by
  induction k with
  | zero => intro a i h; rfl
  | succ k ih =>
    intro a i h
    have h0 : F i = F' i := h i (Nat.le_refl _) (by omega)
    have h1 : ∀ a', own_tk VT F a' (i + 1) k = own_tk VT F' a' (i + 1) k := fun a' => ih a' (i + 1) fun j q1 q2 => h j (by omega) (by omega)
    simp only [own_tk, h0, h1]
def own_up (F : Nat → Int32) (n : Nat) (b : Int32) (k : Nat) : Int32 := if k = n then b else F k
theorem own_tk_snoc {VT F : Nat → Int32} {a a1 a2 : Nat × Nat × Int32} {n : Nat} {b : Int32} (h1 : own_tk VT F a 0 n = some a1) (h2 : own_stp VT a1 b = some a2) : own_tk VT (own_up F n b) a 0 (n + 1) = some a2 := by
  rw [own_tk_add VT _ n a 0 1, own_tk_congr VT (own_up F n b) F n a 0 (fun j _ hj => by simp only [own_up]; rw [if_neg (by omega)]), h1]
  show ((own_stp VT a1 (own_up F n b (0 + n))).bind fun a' => own_tk VT (own_up F n b) a' (0 + n + 1) 0) = _
  rw [show own_up F n b (0 + n) = b by simp [own_up], h2]
  rfl
theorem own_tk_split {VT F : Nat → Int32} {a fin : Nat × Nat × Int32} {n k : Nat} (h : own_tk VT F a 0 n = some fin) (hk : k ≤ n) : ∃ md, own_tk VT F a 0 k = some md ∧ own_tk VT F md k (n - k) = some fin := by
  rw [show n = k + (n - k) by omega, own_tk_add VT F k a 0 (n - k)] at h
  cases q : own_tk VT F a 0 k with
  | none => rw [q] at h; cases h
  | some md =>
    rw [q] at h
    refine ⟨md, rfl, ?_⟩
    have h' : own_tk VT F md (0 + k) (n - k) = some fin := h
    rw [Nat.zero_add] at h'
    exact h'
theorem own_tk_cons {VT F : Nat → Int32} {a fin : Nat × Nat × Int32} {i k : Nat} (h : own_tk VT F a i (k + 1) = some fin) : ∃ a', own_stp VT a (F i) = some a' ∧ own_tk VT F a' (i + 1) k = some fin := by
  have h' : ((own_stp VT a (F i)).bind fun a' => own_tk VT F a' (i + 1) k) = some fin := h
  cases q : own_stp VT a (F i) with
  | none => rw [q] at h'; cases h'
  | some a' => rw [q] at h'; exact ⟨a', rfl, h'⟩
theorem own_stp_cases {VT : Nat → Int32} {ch pd : Nat} {la b : Int32} {a' : Nat × Nat × Int32} (h0 : pd = 0 → VT (own_ix b) < 0) (h : own_stp VT (ch, pd, la) b = some a') : (b = 61 ∧ pd < 2 ∧ a' = (ch, pd + 1, la)) ∨ (b ≠ 61 ∧ (b = 32 ∨ b = 9 ∨ b = 10 ∨ b = 13) ∧ a' = (ch, pd, la)) := by
  simp only [own_stp] at h
  rw [if_neg (fun q => q.2 (h0 q.1))] at h
  by_cases q : b = 61 ∧ pd < 2
  · rw [if_pos q] at h
    exact Or.inl ⟨q.1, q.2, (Option.some.inj h).symm⟩
  · rw [if_neg q] at h
    by_cases r : b = 32 ∨ b = 9 ∨ b = 10 ∨ b = 13
    · rw [if_pos r] at h
      refine Or.inr ⟨?_, r, (Option.some.inj h).symm⟩
      rcases r with rfl | rfl | rfl | rfl <;> decide
    · rw [if_neg r] at h; cases h
theorem own_stp_run {VT : Nat → Int32} {ch : Nat} {la b : Int32} (h : ¬ VT (own_ix b) < 0) : own_stp VT (ch, 0, la) b = some (ch + 1, 0, VT (own_ix b)) := by
  simp only [own_stp]; rw [if_pos ⟨trivial, h⟩]
theorem own_stp_sp {VT : Nat → Int32} {ch pd : Nat} {la b : Int32} (hb : b = 32 ∨ b = 9 ∨ b = 10 ∨ b = 13) (hv : VT (own_ix b) < 0) : own_stp VT (ch, pd, la) b = some (ch, pd, la) := by
  simp only [own_stp]
  rw [if_neg (fun q => q.2 hv), if_neg (fun q => by rcases hb with rfl | rfl | rfl | rfl <;> exact absurd q.1 (by decide)), if_pos hb]
theorem own_stp_eq {VT : Nat → Int32} {ch pd : Nat} {la : Int32} (hp : pd < 2) (hv : VT 61 < 0) : own_stp VT (ch, pd, la) 61 = some (ch, pd + 1, la) := by
  simp only [own_stp]
  rw [if_neg (fun q => q.2 hv), if_pos ⟨by trivial, hp⟩]
/-- what VALUES holds -/
def VTok (VT : Nat → Int32) : Prop := (∀ k, 65 ≤ k → k < 91 → (VT k).toInt = (k : Int) - 65) ∧ (∀ k, 97 ≤ k → k < 123 → (VT k).toInt = (k : Int) - 71) ∧ (∀ k, 48 ≤ k → k < 58 → (VT k).toInt = (k : Int) + 4) ∧ VT 43 = 62 ∧ VT 47 = 63 ∧ VT 32 = -1 ∧ VT 9 = -1 ∧ VT 10 = -1 ∧ VT 13 = -1 ∧ VT 61 = -1
theorem own_vsp {VT : Nat → Int32} (h : VTok VT) {b : Int32} (hb : b = 32 ∨ b = 9 ∨ b = 10 ∨ b = 13) : VT (own_ix b) < 0 := by
  obtain ⟨-, -, -, -, -, h1, h2, h3, h4, -⟩ := h
  rcases hb with rfl | rfl | rfl | rfl
  · show VT 32 < 0; rw [h1]; decide
  · show VT 9 < 0; rw [h2]; decide
  · show VT 10 < 0; rw [h3]; decide
  · show VT 13 < 0; rw [h4]; decide
/-- the check, its text and VALUES -/
def BC (Z : State) (h : Heap) (r tx va : Addr) (F VT : Nat → Int32) (a : Nat × Nat × Int32) : Prop := Exa Z h r "com/example/belge/belge/SimpleTypes$Base64Check" ∧ (∃ cv : Int32, Fld Z h r "com/example/belge/belge/SimpleTypes$Base64Check" "characters" "I" (.int cv) ∧ cv.toInt = (a.1 : Int)) ∧ (∃ pv : Int32, Fld Z h r "com/example/belge/belge/SimpleTypes$Base64Check" "padding" "I" (.int pv) ∧ pv.toInt = (a.2.1 : Int)) ∧ Fld Z h r "com/example/belge/belge/SimpleTypes$Base64Check" "last" "I" (.int a.2.2) ∧ AF Z h tx .byte 12 (fun k => .int (F k)) ∧ AF Z h va .byte 256 (fun k => .int (VT k)) ∧ Sta Z h "com/example/belge/belge/SimpleTypes$Base64Check" "VALUES" "[B" (.ref va)
theorem d8_0 : decode prog_126_method_57_code 0 = .ok (.iload_n 0, 1) := by decide +kernel
theorem d8_1 : decode prog_126_method_57_code 1 = .ok (.bipush 32, 2) := by decide +kernel
theorem d8_3 : decode prog_126_method_57_code 3 = .ok (.if_icmp .eq 21, 3) := by decide +kernel
theorem d8_6 : decode prog_126_method_57_code 6 = .ok (.iload_n 0, 1) := by decide +kernel
theorem d8_7 : decode prog_126_method_57_code 7 = .ok (.bipush 9, 2) := by decide +kernel
theorem d8_9 : decode prog_126_method_57_code 9 = .ok (.if_icmp .eq 15, 3) := by decide +kernel
theorem d8_12 : decode prog_126_method_57_code 12 = .ok (.iload_n 0, 1) := by decide +kernel
theorem d8_13 : decode prog_126_method_57_code 13 = .ok (.bipush 10, 2) := by decide +kernel
theorem d8_15 : decode prog_126_method_57_code 15 = .ok (.if_icmp .eq 9, 3) := by decide +kernel
theorem d8_18 : decode prog_126_method_57_code 18 = .ok (.iload_n 0, 1) := by decide +kernel
theorem d8_19 : decode prog_126_method_57_code 19 = .ok (.bipush 13, 2) := by decide +kernel
theorem d8_21 : decode prog_126_method_57_code 21 = .ok (.if_icmp .ne 7, 3) := by decide +kernel
theorem d8_24 : decode prog_126_method_57_code 24 = .ok (.iconst 1, 1) := by decide +kernel
theorem d8_25 : decode prog_126_method_57_code 25 = .ok (.goto 4, 3) := by decide +kernel
theorem d8_28 : decode prog_126_method_57_code 28 = .ok (.iconst 0, 1) := by decide +kernel
theorem d8_29 : decode prog_126_method_57_code 29 = .ok (.ireturn, 1) := by decide +kernel
theorem pn_8 : plainName "com/example/belge/belge/XmlScanner" = true := by first | (simp [plainName, overriddenIn]; done) | decide +kernel
theorem ef_8 (m : MethodId) (x0 : Int32) : entryFrame m #[(.int x0)] 1 = mkF m 0 #[iv x0] [] := by first | (simp [entryFrame, mkF, argsToLocals, Value.category]; done) | rfl
def Q8 (Z : State) (b : Int32) (h0 : Heap) (n0 : Nat) (v : Option Value) (h : Heap) (L : List Loc) : Prop := ∃ r : Int32, v = some (.int r) ∧ Fr n0 L ∧ h = h0 ∧ ((r = 1 ∧ (b = 32 ∨ b = 9 ∨ b = 10 ∨ b = 13)) ∨ (r = 0 ∧ ¬ (b = 32 ∨ b = 9 ∨ b = 10 ∨ b = 13)))
set_option maxRecDepth 65536 in
set_option maxHeartbeats 40000000 in
theorem rm8 (l : Launch) (Z : State) (a0 : Array Value) (hw : ∀ d ∈ tables_1, d.before a0 Z = true) (ws : List Jvm.Cond) (b : Int32) (h0 : Heap) (n0 : Nat) (Z0 : n0 ≤ h0.size) :
    MetFree l (⟨"com/example/belge/belge/XmlScanner", "isSpace", "(I)Z"⟩ : MethodName) (head1 (Jvm.Cond.code (⟨"com/example/belge/belge/XmlScanner", "isSpace", "(I)Z"⟩ : MethodName) prog_126_method_57_code 1 (some .boolean) :: ws) ({ frames := 0, cells := 0, slots := 0, locals := 0 } : Room)) (fun a U => a = #[(.int b)] ∧ Z.Warmed39 U.vm ∧ U.heap = h0) (fun _ _ _ _ _ => True) (fun _ U o U' => ∃ v L, o = .returned v ∧ Q8 Z b h0 n0 v U'.heap L ∧ FrameEnd U o U' L ({ frames := 0, cells := 0, slots := 0, locals := 0 } : Room).cells ({ frames := 0, cells := 0, slots := 0, locals := 0 } : Room).slots) := by
  refine MetFree.of_bodySF (plainFor_of_name pn_8) hisR ?_
  intro p e s m args below meth c s₁ Bd hml0 hP hK
  obtain ⟨rfl, hZ, hh⟩ := hP
  have hx := Bd.exec
  have hby := Bd.bytes
  have hml : c.maxLocals = 1 := hml0
  have hown : s.vm.findClass "com/example/belge/belge/XmlScanner" = some m.cls := findClass_of_methodNamed Bd.named
  have hnm := (name_of_methodNamed Bd.named Bd.method).1
  have X0 : Stand p l e ({ frames := 0, cells := 0, slots := 0, locals := 0 } : Room) s m #[(.int b)] below meth c s₁ [] 0 0 := Stand.of_body Bd
  have e0 : s₁.heap = h0 := by rw [← hh, Bd.state]; rfl
  have N0 := Fr.nil n0
  show Ends p.tables e below (fun (s₂ : State) (o : Outcome) => ∃ v L, o = .returned v ∧ (Q8 Z b h0 n0) v s₂.heap L ∧ FrameEnd s o s₂ L ({ frames := 0, cells := 0, slots := 0, locals := 0 } : Room).cells ({ frames := 0, cells := 0, slots := 0, locals := 0 } : Room).slots) (s₁.setTop (entryFrame m #[(.int b)] 1))
  refine Ends.any fun G hG => ?_
  refine Ends.go (fun t k => castTop (ef_8 m b) k) ?_
  show Ends p.tables e below G (s₁.setTop (mkF m 0 #[iv b] []))
  refine Ends.go (fun _ => XS.iloadN X0.here hx rfl (hb hby d8_0) rfl) ?_
  show Ends p.tables e below G (s₁.setTop (mkF m 1 #[iv b] [(.int b)]))
  refine Ends.go (fun _ => XS.bipush X0.here hx rfl (hb hby d8_1)) ?_
  show Ends p.tables e below G (s₁.setTop (mkF m 3 #[iv b] [(.int (32 : Int32)), (.int b)]))
  by_cases q1 : b = 32
  · refine Ends.go (fun _ => XS.icmpYes X0.here hx rfl (pc0 := 3) (pc' := 24) rfl (hb hby d8_3) rfl (teq (q1 : b = (32 : Int32))).1 (by decide) (by decide)) ?_
    show Ends p.tables e below G (s₁.setTop (mkF m 24 #[iv b] []))
    refine Ends.go (fun _ => XS.iconst X0.here hx rfl (hb hby d8_24)) ?_
    show Ends p.tables e below G (s₁.setTop (mkF m 25 #[iv b] [(.int (1 : Int32))]))
    refine Ends.go (fun _ => XS.goto X0.here hx rfl (pc0 := 25) (pc' := 29) rfl (hb hby d8_25) (by decide) (by decide)) ?_
    show Ends p.tables e below G (s₁.setTop (mkF m 29 #[iv b] [(.int (1 : Int32))]))
    refine own_finS (t := .boolean) X0 hx Bd.returns (by simp) Bd.notSynchronized (hb hby d8_29) (Q := (Q8 Z b h0 n0)) hG (by decide) (by decide) ?_
    show (Q8 Z b h0 n0) _ s₁.heap _
    rw [e0]
    exact ⟨_, rfl, N0, rfl, Or.inl ⟨rfl, Or.inl q1⟩⟩
  · refine Ends.go (fun _ => XS.icmpNo X0.here hx rfl (hb hby d8_3) rfl (feq (q1 : ¬ (b = (32 : Int32)))).1) ?_
    show Ends p.tables e below G (s₁.setTop (mkF m 6 #[iv b] []))
    refine Ends.go (fun _ => XS.iloadN X0.here hx rfl (hb hby d8_6) rfl) ?_
    show Ends p.tables e below G (s₁.setTop (mkF m 7 #[iv b] [(.int b)]))
    refine Ends.go (fun _ => XS.bipush X0.here hx rfl (hb hby d8_7)) ?_
    show Ends p.tables e below G (s₁.setTop (mkF m 9 #[iv b] [(.int (9 : Int32)), (.int b)]))
    by_cases q2 : b = 9
    · refine Ends.go (fun _ => XS.icmpYes X0.here hx rfl (pc0 := 9) (pc' := 24) rfl (hb hby d8_9) rfl (teq (q2 : b = (9 : Int32))).1 (by decide) (by decide)) ?_
      show Ends p.tables e below G (s₁.setTop (mkF m 24 #[iv b] []))
      refine Ends.go (fun _ => XS.iconst X0.here hx rfl (hb hby d8_24)) ?_
      show Ends p.tables e below G (s₁.setTop (mkF m 25 #[iv b] [(.int (1 : Int32))]))
      refine Ends.go (fun _ => XS.goto X0.here hx rfl (pc0 := 25) (pc' := 29) rfl (hb hby d8_25) (by decide) (by decide)) ?_
      show Ends p.tables e below G (s₁.setTop (mkF m 29 #[iv b] [(.int (1 : Int32))]))
      refine own_finS (t := .boolean) X0 hx Bd.returns (by simp) Bd.notSynchronized (hb hby d8_29) (Q := (Q8 Z b h0 n0)) hG (by decide) (by decide) ?_
      show (Q8 Z b h0 n0) _ s₁.heap _
      rw [e0]
      exact ⟨_, rfl, N0, rfl, Or.inl ⟨rfl, Or.inr (Or.inl q2)⟩⟩
    · refine Ends.go (fun _ => XS.icmpNo X0.here hx rfl (hb hby d8_9) rfl (feq (q2 : ¬ (b = (9 : Int32)))).1) ?_
      show Ends p.tables e below G (s₁.setTop (mkF m 12 #[iv b] []))
      refine Ends.go (fun _ => XS.iloadN X0.here hx rfl (hb hby d8_12) rfl) ?_
      show Ends p.tables e below G (s₁.setTop (mkF m 13 #[iv b] [(.int b)]))
      refine Ends.go (fun _ => XS.bipush X0.here hx rfl (hb hby d8_13)) ?_
      show Ends p.tables e below G (s₁.setTop (mkF m 15 #[iv b] [(.int (10 : Int32)), (.int b)]))
      by_cases q3 : b = 10
      · refine Ends.go (fun _ => XS.icmpYes X0.here hx rfl (pc0 := 15) (pc' := 24) rfl (hb hby d8_15) rfl (teq (q3 : b = (10 : Int32))).1 (by decide) (by decide)) ?_
        show Ends p.tables e below G (s₁.setTop (mkF m 24 #[iv b] []))
        refine Ends.go (fun _ => XS.iconst X0.here hx rfl (hb hby d8_24)) ?_
        show Ends p.tables e below G (s₁.setTop (mkF m 25 #[iv b] [(.int (1 : Int32))]))
        refine Ends.go (fun _ => XS.goto X0.here hx rfl (pc0 := 25) (pc' := 29) rfl (hb hby d8_25) (by decide) (by decide)) ?_
        show Ends p.tables e below G (s₁.setTop (mkF m 29 #[iv b] [(.int (1 : Int32))]))
        refine own_finS (t := .boolean) X0 hx Bd.returns (by simp) Bd.notSynchronized (hb hby d8_29) (Q := (Q8 Z b h0 n0)) hG (by decide) (by decide) ?_
        show (Q8 Z b h0 n0) _ s₁.heap _
        rw [e0]
        exact ⟨_, rfl, N0, rfl, Or.inl ⟨rfl, Or.inr (Or.inr (Or.inl q3))⟩⟩
      · refine Ends.go (fun _ => XS.icmpNo X0.here hx rfl (hb hby d8_15) rfl (feq (q3 : ¬ (b = (10 : Int32)))).1) ?_
        show Ends p.tables e below G (s₁.setTop (mkF m 18 #[iv b] []))
        refine Ends.go (fun _ => XS.iloadN X0.here hx rfl (hb hby d8_18) rfl) ?_
        show Ends p.tables e below G (s₁.setTop (mkF m 19 #[iv b] [(.int b)]))
        refine Ends.go (fun _ => XS.bipush X0.here hx rfl (hb hby d8_19)) ?_
        show Ends p.tables e below G (s₁.setTop (mkF m 21 #[iv b] [(.int (13 : Int32)), (.int b)]))
        by_cases q4 : b = 13
        · refine Ends.go (fun _ => XS.icmpNo X0.here hx rfl (hb hby d8_21) rfl (teq (q4 : b = (13 : Int32))).2) ?_
          show Ends p.tables e below G (s₁.setTop (mkF m 24 #[iv b] []))
          refine Ends.go (fun _ => XS.iconst X0.here hx rfl (hb hby d8_24)) ?_
          show Ends p.tables e below G (s₁.setTop (mkF m 25 #[iv b] [(.int (1 : Int32))]))
          refine Ends.go (fun _ => XS.goto X0.here hx rfl (pc0 := 25) (pc' := 29) rfl (hb hby d8_25) (by decide) (by decide)) ?_
          show Ends p.tables e below G (s₁.setTop (mkF m 29 #[iv b] [(.int (1 : Int32))]))
          refine own_finS (t := .boolean) X0 hx Bd.returns (by simp) Bd.notSynchronized (hb hby d8_29) (Q := (Q8 Z b h0 n0)) hG (by decide) (by decide) ?_
          show (Q8 Z b h0 n0) _ s₁.heap _
          rw [e0]
          exact ⟨_, rfl, N0, rfl, Or.inl ⟨rfl, Or.inr (Or.inr (Or.inr q4))⟩⟩
        · refine Ends.go (fun _ => XS.icmpYes X0.here hx rfl (pc0 := 21) (pc' := 28) rfl (hb hby d8_21) rfl (feq (q4 : ¬ (b = (13 : Int32)))).2 (by decide) (by decide)) ?_
          show Ends p.tables e below G (s₁.setTop (mkF m 28 #[iv b] []))
          refine Ends.go (fun _ => XS.iconst X0.here hx rfl (hb hby d8_28)) ?_
          show Ends p.tables e below G (s₁.setTop (mkF m 29 #[iv b] [(.int (0 : Int32))]))
          refine own_finS (t := .boolean) X0 hx Bd.returns (by simp) Bd.notSynchronized (hb hby d8_29) (Q := (Q8 Z b h0 n0)) hG (by decide) (by decide) ?_
          show (Q8 Z b h0 n0) _ s₁.heap _
          rw [e0]
          exact ⟨_, rfl, N0, rfl, Or.inr ⟨rfl, fun o => o.elim q1 fun o => o.elim q2 fun o => o.elim q3 q4⟩⟩
theorem d7_0 : decode method_5_code 0 = .ok (.iload_n 0, 1) := by decide +kernel
theorem d7_1 : decode method_5_code 1 = .ok (.iconst 3, 1) := by decide +kernel
theorem d7_2 : decode method_5_code 2 = .ok (.iand, 1) := by decide +kernel
theorem d7_3 : decode method_5_code 3 = .ok (.istore_n 1, 1) := by decide +kernel
theorem d7_4 : decode method_5_code 4 = .ok (.iload_n 1, 1) := by decide +kernel
theorem d7_5 : decode method_5_code 5 = .ok (.ifCond .ne 6, 3) := by decide +kernel
theorem d7_8 : decode method_5_code 8 = .ok (.bipush 32, 2) := by decide +kernel
theorem d7_10 : decode method_5_code 10 = .ok (.ireturn, 1) := by decide +kernel
theorem d7_11 : decode method_5_code 11 = .ok (.iload_n 1, 1) := by decide +kernel
theorem d7_12 : decode method_5_code 12 = .ok (.iconst 1, 1) := by decide +kernel
theorem d7_13 : decode method_5_code 13 = .ok (.if_icmp .ne 6, 3) := by decide +kernel
theorem d7_16 : decode method_5_code 16 = .ok (.bipush 9, 2) := by decide +kernel
theorem d7_18 : decode method_5_code 18 = .ok (.ireturn, 1) := by decide +kernel
theorem d7_19 : decode method_5_code 19 = .ok (.iload_n 1, 1) := by decide +kernel
theorem d7_20 : decode method_5_code 20 = .ok (.iconst 2, 1) := by decide +kernel
theorem d7_21 : decode method_5_code 21 = .ok (.if_icmp .ne 6, 3) := by decide +kernel
theorem d7_24 : decode method_5_code 24 = .ok (.bipush 10, 2) := by decide +kernel
theorem d7_26 : decode method_5_code 26 = .ok (.ireturn, 1) := by decide +kernel
theorem d7_27 : decode method_5_code 27 = .ok (.bipush 13, 2) := by decide +kernel
theorem d7_29 : decode method_5_code 29 = .ok (.ireturn, 1) := by decide +kernel
theorem pn_7 : plainName "com/example/belge/belge/Base64CheckIsCompletePinLaw" = true := by first | (simp [plainName, overriddenIn]; done) | decide +kernel
theorem ef_7 (m : MethodId) (x0 : Int32) : entryFrame m #[(.int x0)] 2 = mkF m 0 #[iv x0, un] [] := by first | (simp [entryFrame, mkF, argsToLocals, Value.category]; done) | rfl
def Q7 (Z : State) (sv : Int32) (h0 : Heap) (n0 : Nat) (v : Option Value) (h : Heap) (L : List Loc) : Prop := ∃ r : Int32, v = some (.int r) ∧ Fr n0 L ∧ h = h0 ∧ (r = 32 ∨ r = 9 ∨ r = 10 ∨ r = 13)
set_option maxRecDepth 65536 in
set_option maxHeartbeats 40000000 in
theorem rm7 (l : Launch) (Z : State) (a0 : Array Value) (hw : ∀ d ∈ tables_1, d.before a0 Z = true) (ws : List Jvm.Cond) (sv : Int32) (h0 : Heap) (n0 : Nat) (Z0 : n0 ≤ h0.size) :
    MetFree l (⟨"com/example/belge/belge/Base64CheckIsCompletePinLaw", "space", "(I)B"⟩ : MethodName) (head1 (Jvm.Cond.code (⟨"com/example/belge/belge/Base64CheckIsCompletePinLaw", "space", "(I)B"⟩ : MethodName) method_5_code 2 (some .byte) :: ws) ({ frames := 0, cells := 0, slots := 0, locals := 0 } : Room)) (fun a U => a = #[(.int sv)] ∧ Z.Warmed39 U.vm ∧ U.heap = h0) (fun _ _ _ _ _ => True) (fun _ U o U' => ∃ v L, o = .returned v ∧ Q7 Z sv h0 n0 v U'.heap L ∧ FrameEnd U o U' L ({ frames := 0, cells := 0, slots := 0, locals := 0 } : Room).cells ({ frames := 0, cells := 0, slots := 0, locals := 0 } : Room).slots) := by
  refine MetFree.of_bodySF (plainFor_of_name pn_7) hisR ?_
  intro p e s m args below meth c s₁ Bd hml0 hP hK
  obtain ⟨rfl, hZ, hh⟩ := hP
  have hx := Bd.exec
  have hby := Bd.bytes
  have hml : c.maxLocals = 2 := hml0
  have hown : s.vm.findClass "com/example/belge/belge/Base64CheckIsCompletePinLaw" = some m.cls := findClass_of_methodNamed Bd.named
  have hnm := (name_of_methodNamed Bd.named Bd.method).1
  have X0 : Stand p l e ({ frames := 0, cells := 0, slots := 0, locals := 0 } : Room) s m #[(.int sv)] below meth c s₁ [] 0 0 := Stand.of_body Bd
  have e0 : s₁.heap = h0 := by rw [← hh, Bd.state]; rfl
  have N0 := Fr.nil n0
  show Ends p.tables e below (fun (s₂ : State) (o : Outcome) => ∃ v L, o = .returned v ∧ (Q7 Z sv h0 n0) v s₂.heap L ∧ FrameEnd s o s₂ L ({ frames := 0, cells := 0, slots := 0, locals := 0 } : Room).cells ({ frames := 0, cells := 0, slots := 0, locals := 0 } : Room).slots) (s₁.setTop (entryFrame m #[(.int sv)] 2))
  refine Ends.any fun G hG => ?_
  refine Ends.go (fun t k => castTop (ef_7 m sv) k) ?_
  show Ends p.tables e below G (s₁.setTop (mkF m 0 #[iv sv, un] []))
  refine Ends.go (fun _ => XS.iloadN X0.here hx rfl (hb hby d7_0) rfl) ?_
  show Ends p.tables e below G (s₁.setTop (mkF m 1 #[iv sv, un] [(.int sv)]))
  refine Ends.go (fun _ => XS.iconst X0.here hx rfl (hb hby d7_1)) ?_
  show Ends p.tables e below G (s₁.setTop (mkF m 2 #[iv sv, un] [(.int (3 : Int32)), (.int sv)]))
  refine Ends.go (fun _ => XS.iand X0.here hx rfl (hb hby d7_2) rfl) ?_
  show Ends p.tables e below G (s₁.setTop (mkF m 3 #[iv sv, un] [(.int (sv &&& (3 : Int32)))]))
  refine Ends.go (fun _ => XS.istoreN X0.here hx rfl (hb hby d7_3) rfl (l' := #[iv sv, iv (sv &&& (3 : Int32))]) rfl) ?_
  show Ends p.tables e below G (s₁.setTop (mkF m 4 #[iv sv, iv (sv &&& (3 : Int32))] []))
  generalize (sv &&& (3 : Int32)) = kd
  show Ends p.tables e below G (s₁.setTop (mkF m 4 #[iv sv, iv kd] []))
  refine Ends.go (fun _ => XS.iloadN X0.here hx rfl (hb hby d7_4) rfl) ?_
  show Ends p.tables e below G (s₁.setTop (mkF m 5 #[iv sv, iv kd] [(.int kd)]))
  by_cases q0 : kd = 0
  · refine Ends.go (fun _ => XS.ifNo X0.here hx rfl (hb hby d7_5) rfl ((if0 _ _).trans (teq (q0 : kd = (0 : Int32))).2)) ?_
    show Ends p.tables e below G (s₁.setTop (mkF m 8 #[iv sv, iv kd] []))
    refine Ends.go (fun _ => XS.bipush X0.here hx rfl (hb hby d7_8)) ?_
    show Ends p.tables e below G (s₁.setTop (mkF m 10 #[iv sv, iv kd] [(.int (32 : Int32))]))
    refine own_finS (t := .byte) X0 hx Bd.returns (by simp) Bd.notSynchronized (hb hby d7_10) (Q := (Q7 Z sv h0 n0)) hG (by decide) (by decide) ?_
    show (Q7 Z sv h0 n0) _ s₁.heap _
    rw [e0]
    exact ⟨_, rfl, N0, rfl, Or.inl rfl⟩
  · refine Ends.go (fun _ => XS.ifYes X0.here hx rfl (pc0 := 5) (pc' := 11) rfl (hb hby d7_5) rfl ((if0 _ _).trans (feq (q0 : ¬ (kd = (0 : Int32)))).2) (by decide) (by decide)) ?_
    show Ends p.tables e below G (s₁.setTop (mkF m 11 #[iv sv, iv kd] []))
    refine Ends.go (fun _ => XS.iloadN X0.here hx rfl (hb hby d7_11) rfl) ?_
    show Ends p.tables e below G (s₁.setTop (mkF m 12 #[iv sv, iv kd] [(.int kd)]))
    refine Ends.go (fun _ => XS.iconst X0.here hx rfl (hb hby d7_12)) ?_
    show Ends p.tables e below G (s₁.setTop (mkF m 13 #[iv sv, iv kd] [(.int (1 : Int32)), (.int kd)]))
    by_cases q1 : kd = 1
    · refine Ends.go (fun _ => XS.icmpNo X0.here hx rfl (hb hby d7_13) rfl (teq (q1 : kd = (1 : Int32))).2) ?_
      show Ends p.tables e below G (s₁.setTop (mkF m 16 #[iv sv, iv kd] []))
      refine Ends.go (fun _ => XS.bipush X0.here hx rfl (hb hby d7_16)) ?_
      show Ends p.tables e below G (s₁.setTop (mkF m 18 #[iv sv, iv kd] [(.int (9 : Int32))]))
      refine own_finS (t := .byte) X0 hx Bd.returns (by simp) Bd.notSynchronized (hb hby d7_18) (Q := (Q7 Z sv h0 n0)) hG (by decide) (by decide) ?_
      show (Q7 Z sv h0 n0) _ s₁.heap _
      rw [e0]
      exact ⟨_, rfl, N0, rfl, Or.inr (Or.inl rfl)⟩
    · refine Ends.go (fun _ => XS.icmpYes X0.here hx rfl (pc0 := 13) (pc' := 19) rfl (hb hby d7_13) rfl (feq (q1 : ¬ (kd = (1 : Int32)))).2 (by decide) (by decide)) ?_
      show Ends p.tables e below G (s₁.setTop (mkF m 19 #[iv sv, iv kd] []))
      refine Ends.go (fun _ => XS.iloadN X0.here hx rfl (hb hby d7_19) rfl) ?_
      show Ends p.tables e below G (s₁.setTop (mkF m 20 #[iv sv, iv kd] [(.int kd)]))
      refine Ends.go (fun _ => XS.iconst X0.here hx rfl (hb hby d7_20)) ?_
      show Ends p.tables e below G (s₁.setTop (mkF m 21 #[iv sv, iv kd] [(.int (2 : Int32)), (.int kd)]))
      by_cases q2 : kd = 2
      · refine Ends.go (fun _ => XS.icmpNo X0.here hx rfl (hb hby d7_21) rfl (teq (q2 : kd = (2 : Int32))).2) ?_
        show Ends p.tables e below G (s₁.setTop (mkF m 24 #[iv sv, iv kd] []))
        refine Ends.go (fun _ => XS.bipush X0.here hx rfl (hb hby d7_24)) ?_
        show Ends p.tables e below G (s₁.setTop (mkF m 26 #[iv sv, iv kd] [(.int (10 : Int32))]))
        refine own_finS (t := .byte) X0 hx Bd.returns (by simp) Bd.notSynchronized (hb hby d7_26) (Q := (Q7 Z sv h0 n0)) hG (by decide) (by decide) ?_
        show (Q7 Z sv h0 n0) _ s₁.heap _
        rw [e0]
        exact ⟨_, rfl, N0, rfl, Or.inr (Or.inr (Or.inl rfl))⟩
      · refine Ends.go (fun _ => XS.icmpYes X0.here hx rfl (pc0 := 21) (pc' := 27) rfl (hb hby d7_21) rfl (feq (q2 : ¬ (kd = (2 : Int32)))).2 (by decide) (by decide)) ?_
        show Ends p.tables e below G (s₁.setTop (mkF m 27 #[iv sv, iv kd] []))
        refine Ends.go (fun _ => XS.bipush X0.here hx rfl (hb hby d7_27)) ?_
        show Ends p.tables e below G (s₁.setTop (mkF m 29 #[iv sv, iv kd] [(.int (13 : Int32))]))
        refine own_finS (t := .byte) X0 hx Bd.returns (by simp) Bd.notSynchronized (hb hby d7_29) (Q := (Q7 Z sv h0 n0)) hG (by decide) (by decide) ?_
        show (Q7 Z sv h0 n0) _ s₁.heap _
        rw [e0]
        exact ⟨_, rfl, N0, rfl, Or.inr (Or.inr (Or.inr rfl))⟩
theorem d6_0 : decode method_4_code 0 = .ok (.iload_n 0, 1) := by decide +kernel
theorem d6_1 : decode method_4_code 1 = .ok (.bipush 26, 2) := by decide +kernel
theorem d6_3 : decode method_4_code 3 = .ok (.if_icmp .ge 9, 3) := by decide +kernel
theorem d6_6 : decode method_4_code 6 = .ok (.bipush 65, 2) := by decide +kernel
theorem d6_8 : decode method_4_code 8 = .ok (.iload_n 0, 1) := by decide +kernel
theorem d6_9 : decode method_4_code 9 = .ok (.iadd, 1) := by decide +kernel
theorem d6_10 : decode method_4_code 10 = .ok (.i2b, 1) := by decide +kernel
theorem d6_11 : decode method_4_code 11 = .ok (.ireturn, 1) := by decide +kernel
theorem d6_12 : decode method_4_code 12 = .ok (.iload_n 0, 1) := by decide +kernel
theorem d6_13 : decode method_4_code 13 = .ok (.bipush 52, 2) := by decide +kernel
theorem d6_15 : decode method_4_code 15 = .ok (.if_icmp .ge 12, 3) := by decide +kernel
theorem d6_18 : decode method_4_code 18 = .ok (.bipush 97, 2) := by decide +kernel
theorem d6_20 : decode method_4_code 20 = .ok (.iload_n 0, 1) := by decide +kernel
theorem d6_21 : decode method_4_code 21 = .ok (.iadd, 1) := by decide +kernel
theorem d6_22 : decode method_4_code 22 = .ok (.bipush 26, 2) := by decide +kernel
theorem d6_24 : decode method_4_code 24 = .ok (.isub, 1) := by decide +kernel
theorem d6_25 : decode method_4_code 25 = .ok (.i2b, 1) := by decide +kernel
theorem d6_26 : decode method_4_code 26 = .ok (.ireturn, 1) := by decide +kernel
theorem d6_27 : decode method_4_code 27 = .ok (.iload_n 0, 1) := by decide +kernel
theorem d6_28 : decode method_4_code 28 = .ok (.bipush 62, 2) := by decide +kernel
theorem d6_30 : decode method_4_code 30 = .ok (.if_icmp .ge 12, 3) := by decide +kernel
theorem d6_33 : decode method_4_code 33 = .ok (.bipush 48, 2) := by decide +kernel
theorem d6_35 : decode method_4_code 35 = .ok (.iload_n 0, 1) := by decide +kernel
theorem d6_36 : decode method_4_code 36 = .ok (.iadd, 1) := by decide +kernel
theorem d6_37 : decode method_4_code 37 = .ok (.bipush 52, 2) := by decide +kernel
theorem d6_39 : decode method_4_code 39 = .ok (.isub, 1) := by decide +kernel
theorem d6_40 : decode method_4_code 40 = .ok (.i2b, 1) := by decide +kernel
theorem d6_41 : decode method_4_code 41 = .ok (.ireturn, 1) := by decide +kernel
theorem d6_42 : decode method_4_code 42 = .ok (.iload_n 0, 1) := by decide +kernel
theorem d6_43 : decode method_4_code 43 = .ok (.bipush 62, 2) := by decide +kernel
theorem d6_45 : decode method_4_code 45 = .ok (.if_icmp .ne 6, 3) := by decide +kernel
theorem d6_48 : decode method_4_code 48 = .ok (.bipush 43, 2) := by decide +kernel
theorem d6_50 : decode method_4_code 50 = .ok (.ireturn, 1) := by decide +kernel
theorem d6_51 : decode method_4_code 51 = .ok (.bipush 47, 2) := by decide +kernel
theorem d6_53 : decode method_4_code 53 = .ok (.ireturn, 1) := by decide +kernel
theorem pn_6 : plainName "com/example/belge/belge/Base64CheckIsCompletePinLaw" = true := by first | (simp [plainName, overriddenIn]; done) | decide +kernel
theorem ef_6 (m : MethodId) (x0 : Int32) : entryFrame m #[(.int x0)] 1 = mkF m 0 #[iv x0] [] := by first | (simp [entryFrame, mkF, argsToLocals, Value.category]; done) | rfl
def Q6 (Z : State) (kv : Int32) (k : Nat) (VT : Nat → Int32) (h0 : Heap) (n0 : Nat) (v : Option Value) (h : Heap) (L : List Loc) : Prop := ∃ r : Int32, v = some (.int r) ∧ Fr n0 L ∧ h = h0 ∧ VT (own_ix r) = kv
set_option maxRecDepth 65536 in
set_option maxHeartbeats 40000000 in
theorem rm6 (l : Launch) (Z : State) (a0 : Array Value) (hw : ∀ d ∈ tables_1, d.before a0 Z = true) (ws : List Jvm.Cond) (kv : Int32) (k : Nat) (VT : Nat → Int32) (h0 : Heap) (n0 : Nat) (Z0 : n0 ≤ h0.size) (hk : kv.toInt = (k : Int)) (hk6 : k < 64) (h1 : ∀ k, 65 ≤ k → k < 91 → (VT k).toInt = (k : Int) - 65) (h2 : ∀ k, 97 ≤ k → k < 123 → (VT k).toInt = (k : Int) - 71) (h3 : ∀ k, 48 ≤ k → k < 58 → (VT k).toInt = (k : Int) + 4) (h4 : VT 43 = 62) (h5 : VT 47 = 63) :
    MetFree l (⟨"com/example/belge/belge/Base64CheckIsCompletePinLaw", "digit", "(I)B"⟩ : MethodName) (head1 (Jvm.Cond.code (⟨"com/example/belge/belge/Base64CheckIsCompletePinLaw", "digit", "(I)B"⟩ : MethodName) method_4_code 1 (some .byte) :: ws) ({ frames := 0, cells := 0, slots := 0, locals := 0 } : Room)) (fun a U => a = #[(.int kv)] ∧ Z.Warmed39 U.vm ∧ U.heap = h0) (fun _ _ _ _ _ => True) (fun _ U o U' => ∃ v L, o = .returned v ∧ Q6 Z kv k VT h0 n0 v U'.heap L ∧ FrameEnd U o U' L ({ frames := 0, cells := 0, slots := 0, locals := 0 } : Room).cells ({ frames := 0, cells := 0, slots := 0, locals := 0 } : Room).slots) := by
  refine MetFree.of_bodySF (plainFor_of_name pn_6) hisR ?_
  intro p e s m args below meth c s₁ Bd hml0 hP hK
  obtain ⟨rfl, hZ, hh⟩ := hP
  have hx := Bd.exec
  have hby := Bd.bytes
  have hml : c.maxLocals = 1 := hml0
  have hown : s.vm.findClass "com/example/belge/belge/Base64CheckIsCompletePinLaw" = some m.cls := findClass_of_methodNamed Bd.named
  have hnm := (name_of_methodNamed Bd.named Bd.method).1
  have X0 : Stand p l e ({ frames := 0, cells := 0, slots := 0, locals := 0 } : Room) s m #[(.int kv)] below meth c s₁ [] 0 0 := Stand.of_body Bd
  have e0 : s₁.heap = h0 := by rw [← hh, Bd.state]; rfl
  have N0 := Fr.nil n0
  show Ends p.tables e below (fun (s₂ : State) (o : Outcome) => ∃ v L, o = .returned v ∧ (Q6 Z kv k VT h0 n0) v s₂.heap L ∧ FrameEnd s o s₂ L ({ frames := 0, cells := 0, slots := 0, locals := 0 } : Room).cells ({ frames := 0, cells := 0, slots := 0, locals := 0 } : Room).slots) (s₁.setTop (entryFrame m #[(.int kv)] 1))
  refine Ends.any fun G hG => ?_
  refine Ends.go (fun t k => castTop (ef_6 m kv) k) ?_
  show Ends p.tables e below G (s₁.setTop (mkF m 0 #[iv kv] []))
  refine Ends.go (fun _ => XS.iloadN X0.here hx rfl (hb hby d6_0) rfl) ?_
  show Ends p.tables e below G (s₁.setTop (mkF m 1 #[iv kv] [(.int kv)]))
  refine Ends.go (fun _ => XS.bipush X0.here hx rfl (hb hby d6_1)) ?_
  show Ends p.tables e below G (s₁.setTop (mkF m 3 #[iv kv] [(.int (26 : Int32)), (.int kv)]))
  by_cases q0 : k < 26
  · refine Ends.go (fun _ => XS.icmpNo X0.here hx rfl (hb hby d6_3) rfl (tlt ((own_lt hk (b := 26) rfl).mpr q0 : kv < (26 : Int32))).2.1) ?_
    show Ends p.tables e below G (s₁.setTop (mkF m 6 #[iv kv] []))
    refine Ends.go (fun _ => XS.bipush X0.here hx rfl (hb hby d6_6)) ?_
    show Ends p.tables e below G (s₁.setTop (mkF m 8 #[iv kv] [(.int (65 : Int32))]))
    refine Ends.go (fun _ => XS.iloadN X0.here hx rfl (hb hby d6_8) rfl) ?_
    show Ends p.tables e below G (s₁.setTop (mkF m 9 #[iv kv] [(.int kv), (.int (65 : Int32))]))
    refine Ends.go (fun _ => XS.iadd X0.here hx rfl (hb hby d6_9) rfl) ?_
    show Ends p.tables e below G (s₁.setTop (mkF m 10 #[iv kv] [(.int ((65 : Int32) + kv))]))
    refine Ends.go (fun _ => XS.i2b X0.here hx rfl (hb hby d6_10) rfl) ?_
    show Ends p.tables e below G (s₁.setTop (mkF m 11 #[iv kv] [(.int (((65 : Int32) + kv).toInt8.toInt32))]))
    have hxx : ((65 : Int32) + kv).toInt = ((k + 65 : Nat) : Int) := by
      have u1 := c_iadd 65 kv
      have u2 := rng32 (65 + kv)
      have u3 : (65 : Int32).toInt = 65 := rfl
      omega
    have hix : own_ix (nar .byte (((65 : Int32) + kv).toInt8.toInt32)) = k + 65 := by
      rw [own_ixn, own_i2b hxx (by omega)]
      have u1 := own_ixV ((65 : Int32) + kv)
      omega
    refine own_finS (t := .byte) X0 hx Bd.returns (by simp) Bd.notSynchronized (hb hby d6_11) (Q := (Q6 Z kv k VT h0 n0)) hG (by decide) (by decide) ?_
    show (Q6 Z kv k VT h0 n0) _ s₁.heap _
    rw [e0]
    exact ⟨_, rfl, N0, rfl, by rw [hix]; apply Int32.toInt_inj.mp; rw [h1 _ (by omega) (by omega), hk]; omega⟩
  · refine Ends.go (fun _ => XS.icmpYes X0.here hx rfl (pc0 := 3) (pc' := 12) rfl (hb hby d6_3) rfl (flt (fun z => q0 ((own_lt hk (b := 26) rfl).mp z) : ¬ (kv < (26 : Int32)))).2.1 (by decide) (by decide)) ?_
    show Ends p.tables e below G (s₁.setTop (mkF m 12 #[iv kv] []))
    refine Ends.go (fun _ => XS.iloadN X0.here hx rfl (hb hby d6_12) rfl) ?_
    show Ends p.tables e below G (s₁.setTop (mkF m 13 #[iv kv] [(.int kv)]))
    refine Ends.go (fun _ => XS.bipush X0.here hx rfl (hb hby d6_13)) ?_
    show Ends p.tables e below G (s₁.setTop (mkF m 15 #[iv kv] [(.int (52 : Int32)), (.int kv)]))
    by_cases q1 : k < 52
    · refine Ends.go (fun _ => XS.icmpNo X0.here hx rfl (hb hby d6_15) rfl (tlt ((own_lt hk (b := 52) rfl).mpr q1 : kv < (52 : Int32))).2.1) ?_
      show Ends p.tables e below G (s₁.setTop (mkF m 18 #[iv kv] []))
      refine Ends.go (fun _ => XS.bipush X0.here hx rfl (hb hby d6_18)) ?_
      show Ends p.tables e below G (s₁.setTop (mkF m 20 #[iv kv] [(.int (97 : Int32))]))
      refine Ends.go (fun _ => XS.iloadN X0.here hx rfl (hb hby d6_20) rfl) ?_
      show Ends p.tables e below G (s₁.setTop (mkF m 21 #[iv kv] [(.int kv), (.int (97 : Int32))]))
      refine Ends.go (fun _ => XS.iadd X0.here hx rfl (hb hby d6_21) rfl) ?_
      show Ends p.tables e below G (s₁.setTop (mkF m 22 #[iv kv] [(.int ((97 : Int32) + kv))]))
      refine Ends.go (fun _ => XS.bipush X0.here hx rfl (hb hby d6_22)) ?_
      show Ends p.tables e below G (s₁.setTop (mkF m 24 #[iv kv] [(.int (26 : Int32)), (.int ((97 : Int32) + kv))]))
      refine Ends.go (fun _ => XS.isub X0.here hx rfl (hb hby d6_24) rfl) ?_
      show Ends p.tables e below G (s₁.setTop (mkF m 25 #[iv kv] [(.int (((97 : Int32) + kv) - (26 : Int32)))]))
      refine Ends.go (fun _ => XS.i2b X0.here hx rfl (hb hby d6_25) rfl) ?_
      show Ends p.tables e below G (s₁.setTop (mkF m 26 #[iv kv] [(.int ((((97 : Int32) + kv) - (26 : Int32)).toInt8.toInt32))]))
      have hxx : (((97 : Int32) + kv) - (26 : Int32)).toInt = ((k + 71 : Nat) : Int) := by
        have u1 := c_iadd 97 kv
        have u2 := rng32 (97 + kv)
        have u3 : (97 : Int32).toInt = 97 := rfl
        have u4 := c_isub (97 + kv) 26
        have u5 := rng32 (97 + kv - 26)
        have u6 : (26 : Int32).toInt = 26 := rfl
        omega
      have hix : own_ix (nar .byte ((((97 : Int32) + kv) - (26 : Int32)).toInt8.toInt32)) = k + 71 := by
        rw [own_ixn, own_i2b hxx (by omega)]
        have u1 := own_ixV (((97 : Int32) + kv) - (26 : Int32))
        omega
      refine own_finS (t := .byte) X0 hx Bd.returns (by simp) Bd.notSynchronized (hb hby d6_26) (Q := (Q6 Z kv k VT h0 n0)) hG (by decide) (by decide) ?_
      show (Q6 Z kv k VT h0 n0) _ s₁.heap _
      rw [e0]
      exact ⟨_, rfl, N0, rfl, by rw [hix]; apply Int32.toInt_inj.mp; rw [h2 _ (by omega) (by omega), hk]; omega⟩
    · refine Ends.go (fun _ => XS.icmpYes X0.here hx rfl (pc0 := 15) (pc' := 27) rfl (hb hby d6_15) rfl (flt (fun z => q1 ((own_lt hk (b := 52) rfl).mp z) : ¬ (kv < (52 : Int32)))).2.1 (by decide) (by decide)) ?_
      show Ends p.tables e below G (s₁.setTop (mkF m 27 #[iv kv] []))
      refine Ends.go (fun _ => XS.iloadN X0.here hx rfl (hb hby d6_27) rfl) ?_
      show Ends p.tables e below G (s₁.setTop (mkF m 28 #[iv kv] [(.int kv)]))
      refine Ends.go (fun _ => XS.bipush X0.here hx rfl (hb hby d6_28)) ?_
      show Ends p.tables e below G (s₁.setTop (mkF m 30 #[iv kv] [(.int (62 : Int32)), (.int kv)]))
      by_cases q2 : k < 62
      · refine Ends.go (fun _ => XS.icmpNo X0.here hx rfl (hb hby d6_30) rfl (tlt ((own_lt hk (b := 62) rfl).mpr q2 : kv < (62 : Int32))).2.1) ?_
        show Ends p.tables e below G (s₁.setTop (mkF m 33 #[iv kv] []))
        refine Ends.go (fun _ => XS.bipush X0.here hx rfl (hb hby d6_33)) ?_
        show Ends p.tables e below G (s₁.setTop (mkF m 35 #[iv kv] [(.int (48 : Int32))]))
        refine Ends.go (fun _ => XS.iloadN X0.here hx rfl (hb hby d6_35) rfl) ?_
        show Ends p.tables e below G (s₁.setTop (mkF m 36 #[iv kv] [(.int kv), (.int (48 : Int32))]))
        refine Ends.go (fun _ => XS.iadd X0.here hx rfl (hb hby d6_36) rfl) ?_
        show Ends p.tables e below G (s₁.setTop (mkF m 37 #[iv kv] [(.int ((48 : Int32) + kv))]))
        refine Ends.go (fun _ => XS.bipush X0.here hx rfl (hb hby d6_37)) ?_
        show Ends p.tables e below G (s₁.setTop (mkF m 39 #[iv kv] [(.int (52 : Int32)), (.int ((48 : Int32) + kv))]))
        refine Ends.go (fun _ => XS.isub X0.here hx rfl (hb hby d6_39) rfl) ?_
        show Ends p.tables e below G (s₁.setTop (mkF m 40 #[iv kv] [(.int (((48 : Int32) + kv) - (52 : Int32)))]))
        refine Ends.go (fun _ => XS.i2b X0.here hx rfl (hb hby d6_40) rfl) ?_
        show Ends p.tables e below G (s₁.setTop (mkF m 41 #[iv kv] [(.int ((((48 : Int32) + kv) - (52 : Int32)).toInt8.toInt32))]))
        have hxx : (((48 : Int32) + kv) - (52 : Int32)).toInt = ((k - 4 : Nat) : Int) := by
          have u1 := c_iadd 48 kv
          have u2 := rng32 (48 + kv)
          have u3 : (48 : Int32).toInt = 48 := rfl
          have u4 := c_isub (48 + kv) 52
          have u5 := rng32 (48 + kv - 52)
          have u6 : (52 : Int32).toInt = 52 := rfl
          omega
        have hix : own_ix (nar .byte ((((48 : Int32) + kv) - (52 : Int32)).toInt8.toInt32)) = k - 4 := by
          rw [own_ixn, own_i2b hxx (by omega)]
          have u1 := own_ixV (((48 : Int32) + kv) - (52 : Int32))
          omega
        refine own_finS (t := .byte) X0 hx Bd.returns (by simp) Bd.notSynchronized (hb hby d6_41) (Q := (Q6 Z kv k VT h0 n0)) hG (by decide) (by decide) ?_
        show (Q6 Z kv k VT h0 n0) _ s₁.heap _
        rw [e0]
        exact ⟨_, rfl, N0, rfl, by rw [hix]; apply Int32.toInt_inj.mp; rw [h3 _ (by omega) (by omega), hk]; omega⟩
      · refine Ends.go (fun _ => XS.icmpYes X0.here hx rfl (pc0 := 30) (pc' := 42) rfl (hb hby d6_30) rfl (flt (fun z => q2 ((own_lt hk (b := 62) rfl).mp z) : ¬ (kv < (62 : Int32)))).2.1 (by decide) (by decide)) ?_
        show Ends p.tables e below G (s₁.setTop (mkF m 42 #[iv kv] []))
        refine Ends.go (fun _ => XS.iloadN X0.here hx rfl (hb hby d6_42) rfl) ?_
        show Ends p.tables e below G (s₁.setTop (mkF m 43 #[iv kv] [(.int kv)]))
        refine Ends.go (fun _ => XS.bipush X0.here hx rfl (hb hby d6_43)) ?_
        show Ends p.tables e below G (s₁.setTop (mkF m 45 #[iv kv] [(.int (62 : Int32)), (.int kv)]))
        by_cases q3 : k = 62
        · refine Ends.go (fun _ => XS.icmpNo X0.here hx rfl (hb hby d6_45) rfl (teq ((own_eqn hk (b := 62) rfl).mpr q3 : kv = (62 : Int32))).2) ?_
          show Ends p.tables e below G (s₁.setTop (mkF m 48 #[iv kv] []))
          refine Ends.go (fun _ => XS.bipush X0.here hx rfl (hb hby d6_48)) ?_
          show Ends p.tables e below G (s₁.setTop (mkF m 50 #[iv kv] [(.int (43 : Int32))]))
          refine own_finS (t := .byte) X0 hx Bd.returns (by simp) Bd.notSynchronized (hb hby d6_50) (Q := (Q6 Z kv k VT h0 n0)) hG (by decide) (by decide) ?_
          show (Q6 Z kv k VT h0 n0) _ s₁.heap _
          rw [e0]
          exact ⟨_, rfl, N0, rfl, by show VT 43 = kv; rw [h4]; exact ((own_eqn hk (b := 62) rfl).mpr q3).symm⟩
        · refine Ends.go (fun _ => XS.icmpYes X0.here hx rfl (pc0 := 45) (pc' := 51) rfl (hb hby d6_45) rfl (feq (fun z => q3 ((own_eqn hk (b := 62) rfl).mp z) : ¬ (kv = (62 : Int32)))).2 (by decide) (by decide)) ?_
          show Ends p.tables e below G (s₁.setTop (mkF m 51 #[iv kv] []))
          refine Ends.go (fun _ => XS.bipush X0.here hx rfl (hb hby d6_51)) ?_
          show Ends p.tables e below G (s₁.setTop (mkF m 53 #[iv kv] [(.int (47 : Int32))]))
          refine own_finS (t := .byte) X0 hx Bd.returns (by simp) Bd.notSynchronized (hb hby d6_53) (Q := (Q6 Z kv k VT h0 n0)) hG (by decide) (by decide) ?_
          show (Q6 Z kv k VT h0 n0) _ s₁.heap _
          rw [e0]
          exact ⟨_, rfl, N0, rfl, by show VT 47 = kv; rw [h5]; exact ((own_eqn hk (b := 63) rfl).mpr (by omega)).symm⟩
theorem own_k6 (x : Int64) : ∃ k : Nat, k < 64 ∧ ((x &&& (63 : Int64)).toInt32).toInt = (k : Int) := by
  have h := c_maskL x 63 6 (by decide) (by decide)
  have h1 := Int.emod_nonneg x.toInt (b := ((2 ^ 6 : Nat) : Int)) (by decide)
  have h2 := Int.emod_lt_of_pos x.toInt (b := ((2 ^ 6 : Nat) : Int)) (by decide)
  have h3 := c_l2i (x &&& 63)
  have h4 := rng32 (x &&& 63).toInt32
  have e : ((2 ^ 6 : Nat) : Int) = 64 := rfl
  exact ⟨(x.toInt % ((2 ^ 6 : Nat) : Int)).toNat, by omega, by omega⟩
theorem d5_0 : decode method_3_code 0 = .ok (.iload_n 0, 1) := by decide +kernel
theorem d5_1 : decode method_3_code 1 = .ok (.iload_n 1, 1) := by decide +kernel
theorem d5_2 : decode method_3_code 2 = .ok (.iconst 1, 1) := by decide +kernel
theorem d5_3 : decode method_3_code 3 = .ok (.isub, 1) := by decide +kernel
theorem d5_4 : decode method_3_code 4 = .ok (.if_icmp .ne 7, 3) := by decide +kernel
theorem d5_7 : decode method_3_code 7 = .ok (.iload_n 2, 1) := by decide +kernel
theorem d5_8 : decode method_3_code 8 = .ok (.goto 14, 3) := by decide +kernel
theorem d5_11 : decode method_3_code 11 = .ok (.lload_n 3, 1) := by decide +kernel
theorem d5_12 : decode method_3_code 12 = .ok (.bipush 6, 2) := by decide +kernel
theorem d5_14 : decode method_3_code 14 = .ok (.iload_n 0, 1) := by decide +kernel
theorem d5_15 : decode method_3_code 15 = .ok (.imul, 1) := by decide +kernel
theorem d5_16 : decode method_3_code 16 = .ok (.lushr, 1) := by decide +kernel
theorem d5_17 : decode method_3_code 17 = .ok (.ldc2_w 29, 3) := by decide +kernel
theorem d5_20 : decode method_3_code 20 = .ok (.land, 1) := by decide +kernel
theorem d5_21 : decode method_3_code 21 = .ok (.l2i, 1) := by decide +kernel
theorem d5_22 : decode method_3_code 22 = .ok (.istore 5, 2) := by decide +kernel
theorem d5_24 : decode method_3_code 24 = .ok (.iload 5, 2) := by decide +kernel
theorem d5_26 : decode method_3_code 26 = .ok (.invokestatic 31, 3) := by decide +kernel
theorem pd_0 : parseMethodDescriptor "(I)B" = some ⟨[.int], some .byte⟩ := by decide +kernel
theorem d5_29 : decode method_3_code 29 = .ok (.ireturn, 1) := by decide +kernel
theorem pn_5 : plainName "com/example/belge/belge/Base64CheckIsCompletePinLaw" = true := by first | (simp [plainName, overriddenIn]; done) | decide +kernel
theorem ef_5 (m : MethodId) (x0 : Int32) (x1 : Int32) (x2 : Int32) (x3 : Int64) : entryFrame m #[(.int x0), (.int x1), (.int x2), (.long x3)] 6 = mkF m 0 #[iv x0, iv x1, iv x2, .val (.long x3), .second, un] [] := by first | (simp [entryFrame, mkF, argsToLocals, Value.category]; done) | rfl
def Q5 (Z : State) (iv_ : Int32) (nv : Int32) (vv : Int32) (dd : Int64) (i : Nat) (n : Nat) (vn : Nat) (VT : Nat → Int32) (h0 : Heap) (n0 : Nat) (v : Option Value) (h : Heap) (L : List Loc) : Prop := ∃ r : Int32, v = some (.int r) ∧ Fr n0 L ∧ h = h0 ∧ ¬ VT (own_ix r) < 0 ∧ (i + 1 = n → VT (own_ix r) = vv)
set_option maxRecDepth 65536 in
set_option maxHeartbeats 40000000 in
theorem rm5 (l : Launch) (Z : State) (a0 : Array Value) (hw : ∀ d ∈ tables_1, d.before a0 Z = true) (ws : List Jvm.Cond) (iv_ : Int32) (nv : Int32) (vv : Int32) (dd : Int64) (i : Nat) (n : Nat) (vn : Nat) (VT : Nat → Int32) (h0 : Heap) (n0 : Nat) (Z0 : n0 ≤ h0.size) (hi : iv_.toInt = (i : Int)) (hn : nv.toInt = (n : Int)) (hv : vv.toInt = (vn : Int)) (hv6 : vn < 64) (hV : VTok VT) :
    MetFree l (⟨"com/example/belge/belge/Base64CheckIsCompletePinLaw", "letter", "(IIIJ)B"⟩ : MethodName) (head1 (Jvm.Cond.code (⟨"com/example/belge/belge/Base64CheckIsCompletePinLaw", "letter", "(IIIJ)B"⟩ : MethodName) method_3_code 6 (some .byte) :: ws) ({ frames := 1, cells := 0, slots := 0, locals := 12 } : Room)) (fun a U => a = #[(.int iv_), (.int nv), (.int vv), (.long dd)] ∧ Z.Warmed39 U.vm ∧ U.heap = h0) (fun _ _ _ _ _ => True) (fun _ U o U' => ∃ v L, o = .returned v ∧ Q5 Z iv_ nv vv dd i n vn VT h0 n0 v U'.heap L ∧ FrameEnd U o U' L ({ frames := 1, cells := 0, slots := 0, locals := 12 } : Room).cells ({ frames := 1, cells := 0, slots := 0, locals := 12 } : Room).slots) := by
  refine MetFree.of_bodySF (plainFor_of_name pn_5) hisR ?_
  intro p e s m args below meth c s₁ Bd hml0 hP hK
  obtain ⟨rfl, hZ, hh⟩ := hP
  have hx := Bd.exec
  have hby := Bd.bytes
  have hml : c.maxLocals = 6 := hml0
  have hown : s.vm.findClass "com/example/belge/belge/Base64CheckIsCompletePinLaw" = some m.cls := findClass_of_methodNamed Bd.named
  have hnm := (name_of_methodNamed Bd.named Bd.method).1
  have X0 : Stand p l e ({ frames := 1, cells := 0, slots := 0, locals := 12 } : Room) s m #[(.int iv_), (.int nv), (.int vv), (.long dd)] below meth c s₁ [] 0 0 := Stand.of_body Bd
  have e0 : s₁.heap = h0 := by rw [← hh, Bd.state]; rfl
  have N0 := Fr.nil n0
  show Ends p.tables e below (fun (s₂ : State) (o : Outcome) => ∃ v L, o = .returned v ∧ (Q5 Z iv_ nv vv dd i n vn VT h0 n0) v s₂.heap L ∧ FrameEnd s o s₂ L ({ frames := 1, cells := 0, slots := 0, locals := 12 } : Room).cells ({ frames := 1, cells := 0, slots := 0, locals := 12 } : Room).slots) (s₁.setTop (entryFrame m #[(.int iv_), (.int nv), (.int vv), (.long dd)] 6))
  refine Ends.any fun G hG => ?_
  refine Ends.go (fun t k => castTop (ef_5 m iv_ nv vv dd) k) ?_
  show Ends p.tables e below G (s₁.setTop (mkF m 0 #[iv iv_, iv nv, iv vv, .val (.long dd), .second, un] []))
  refine Ends.go (fun _ => XS.iloadN X0.here hx rfl (hb hby d5_0) rfl) ?_
  show Ends p.tables e below G (s₁.setTop (mkF m 1 #[iv iv_, iv nv, iv vv, .val (.long dd), .second, un] [(.int iv_)]))
  refine Ends.go (fun _ => XS.iloadN X0.here hx rfl (hb hby d5_1) rfl) ?_
  show Ends p.tables e below G (s₁.setTop (mkF m 2 #[iv iv_, iv nv, iv vv, .val (.long dd), .second, un] [(.int nv), (.int iv_)]))
  refine Ends.go (fun _ => XS.iconst X0.here hx rfl (hb hby d5_2)) ?_
  show Ends p.tables e below G (s₁.setTop (mkF m 3 #[iv iv_, iv nv, iv vv, .val (.long dd), .second, un] [(.int (1 : Int32)), (.int nv), (.int iv_)]))
  refine Ends.go (fun _ => XS.isub X0.here hx rfl (hb hby d5_3) rfl) ?_
  show Ends p.tables e below G (s₁.setTop (mkF m 4 #[iv iv_, iv nv, iv vv, .val (.long dd), .second, un] [(.int (nv - (1 : Int32))), (.int iv_)]))
  have hn1 : (nv - 1).toInt = (n : Int) - 1 := by
    have u1 := c_isub nv 1
    have u2 := rng32 (nv - 1)
    have u3 : (1 : Int32).toInt = 1 := rfl
    have u4 := rng32 nv
    omega
  by_cases q : i + 1 = n
  · refine Ends.go (fun _ => XS.icmpNo X0.here hx rfl (hb hby d5_4) rfl (teq (Int32.toInt_inj.mp (by rw [hi, hn1]; omega) : iv_ = (nv - (1 : Int32)))).2) ?_
    show Ends p.tables e below G (s₁.setTop (mkF m 7 #[iv iv_, iv nv, iv vv, .val (.long dd), .second, un] []))
    refine Ends.go (fun _ => XS.iloadN X0.here hx rfl (hb hby d5_7) rfl) ?_
    show Ends p.tables e below G (s₁.setTop (mkF m 8 #[iv iv_, iv nv, iv vv, .val (.long dd), .second, un] [(.int vv)]))
    refine Ends.go (fun _ => XS.goto X0.here hx rfl (pc0 := 8) (pc' := 22) rfl (hb hby d5_8) (by decide) (by decide)) ?_
    show Ends p.tables e below G (s₁.setTop (mkF m 22 #[iv iv_, iv nv, iv vv, .val (.long dd), .second, un] [(.int vv)]))
    refine Ends.go (fun _ => XS.istore X0.here hx rfl (hb hby d5_22) rfl (l' := #[iv iv_, iv nv, iv vv, .val (.long dd), .second, iv vv]) rfl) ?_
    show Ends p.tables e below G (s₁.setTop (mkF m 24 #[iv iv_, iv nv, iv vv, .val (.long dd), .second, iv vv] []))
    refine Ends.go (fun _ => XS.iload X0.here hx rfl (hb hby d5_24) rfl) ?_
    show Ends p.tables e below G (s₁.setTop (mkF m 26 #[iv iv_, iv nv, iv vv, .val (.long dd), .second, iv vv] [(.int vv)]))
    obtain ⟨_, _, ⟨T1, L1, k1, n1⟩, -, X1, ⟨Lc1, hQ1, l1, y1, z1⟩, st1⟩ := Jvm.LawKit.callS X0 hx (y := (⟨"com/example/belge/belge/Base64CheckIsCompletePinLaw", "digit", "(I)B"⟩ : MethodName)) hown (mvT hZ (hw _ (List.mem_of_getElem? (i := 30) rfl))) (mvT hZ (hw _ (List.mem_of_getElem? (i := 31) rfl))) (mvT hZ (hw _ (List.mem_of_getElem? (i := 27) rfl))) (mvT hZ (hw _ (List.mem_of_getElem? (i := 32) rfl))) (by decide) (backOf (W := 0) (rm6 l Z a0 hw [] vv vn VT h0 n0 Z0 hv hv6 hV.1 hV.2.1 hV.2.2.1 hV.2.2.2.1 hV.2.2.2.2.1) hZ (hw _ (List.mem_of_getElem? (i := 32) rfl)) (hw _ (List.mem_of_getElem? (i := 27) rfl)) (by decide) (by decide)) (g := (mkF m 26 #[iv iv_, iv nv, iv vv, .val (.long dd), .second, iv vv] [(.int vv)])) rfl (by rw [hml]; rfl) (argsL := [(.int vv)]) (rest := []) (lenOf pd_0 rfl) rfl (by show 2 * 0 + _ ≤ _; exact Nat.le_of_eq rfl) (hb hby d5_26) (fun _ _ => ⟨rfl, e0, (by decide : 0 + 0 ≤ _), (by decide : 0 + 0 ≤ _)⟩)
    dsimp only [Pt.U, Pt.locs, Pt.cells, Pt.slots] at X1 l1 y1 z1 st1 hQ1
    subst l1 y1 z1
    obtain ⟨r1, rfl, N1q, e1, hd1⟩ := hQ1
    have N1 := Fr.app N0 N1q
    refine Ends.go (fun _ => st1 _) ?_
    show Ends p.tables e below G (T1.setTop (mkF m 29 #[iv iv_, iv nv, iv vv, .val (.long dd), .second, iv vv] [(.int r1)]))
    refine own_finS (t := .byte) X1 hx Bd.returns (by simp) Bd.notSynchronized (hb hby d5_29) (Q := (Q5 Z iv_ nv vv dd i n vn VT h0 n0)) hG (by decide) (by decide) ?_
    show (Q5 Z iv_ nv vv dd i n vn VT h0 n0) _ T1.heap _
    rw [e1]
    exact ⟨_, rfl, N1, rfl, by rw [own_ixn, hd1]; rw [Int32.lt_iff_toInt_lt, hv]; have u : (0 : Int32).toInt = 0 := rfl; omega, fun _ => by rw [own_ixn, hd1]⟩
  · refine Ends.go (fun _ => XS.icmpYes X0.here hx rfl (pc0 := 4) (pc' := 11) rfl (hb hby d5_4) rfl (feq (fun z => q (by have := congrArg Int32.toInt z; rw [hi, hn1] at this; omega) : ¬ (iv_ = (nv - (1 : Int32))))).2 (by decide) (by decide)) ?_
    show Ends p.tables e below G (s₁.setTop (mkF m 11 #[iv iv_, iv nv, iv vv, .val (.long dd), .second, un] []))
    refine Ends.go (fun _ => XS.lloadN X0.here hx rfl (hb hby d5_11) rfl) ?_
    show Ends p.tables e below G (s₁.setTop (mkF m 12 #[iv iv_, iv nv, iv vv, .val (.long dd), .second, un] [(.long dd)]))
    refine Ends.go (fun _ => XS.bipush X0.here hx rfl (hb hby d5_12)) ?_
    show Ends p.tables e below G (s₁.setTop (mkF m 14 #[iv iv_, iv nv, iv vv, .val (.long dd), .second, un] [(.int (6 : Int32)), (.long dd)]))
    refine Ends.go (fun _ => XS.iloadN X0.here hx rfl (hb hby d5_14) rfl) ?_
    show Ends p.tables e below G (s₁.setTop (mkF m 15 #[iv iv_, iv nv, iv vv, .val (.long dd), .second, un] [(.int iv_), (.int (6 : Int32)), (.long dd)]))
    refine Ends.go (fun _ => XS.imul X0.here hx rfl (hb hby d5_15) rfl) ?_
    show Ends p.tables e below G (s₁.setTop (mkF m 16 #[iv iv_, iv nv, iv vv, .val (.long dd), .second, un] [(.int ((6 : Int32) * iv_)), (.long dd)]))
    refine Ends.go (fun _ => XS.lushr X0.here hx rfl (hb hby d5_16) rfl) ?_
    show Ends p.tables e below G (s₁.setTop (mkF m 17 #[iv iv_, iv nv, iv vv, .val (.long dd), .second, un] [(.long ((dd.toUInt64 >>> (((6 : Int32) * iv_) &&& 0x3f).toInt64.toUInt64).toInt64))]))
    refine Ends.go (fun _ => X0.ldc2Long hx hown (mvT hZ (hw _ (List.mem_of_getElem? (i := 29) rfl))) (g := (mkF m 17 #[iv iv_, iv nv, iv vv, .val (.long dd), .second, un] [(.long ((dd.toUInt64 >>> (((6 : Int32) * iv_) &&& 0x3f).toInt64.toUInt64).toInt64))])) rfl (hb hby d5_17) _) ?_
    show Ends p.tables e below G (s₁.setTop (mkF m 20 #[iv iv_, iv nv, iv vv, .val (.long dd), .second, un] [(.long (63 : Int64)), (.long ((dd.toUInt64 >>> (((6 : Int32) * iv_) &&& 0x3f).toInt64.toUInt64).toInt64))]))
    refine Ends.go (fun _ => XS.land X0.here hx rfl (hb hby d5_20) rfl) ?_
    show Ends p.tables e below G (s₁.setTop (mkF m 21 #[iv iv_, iv nv, iv vv, .val (.long dd), .second, un] [(.long (((dd.toUInt64 >>> (((6 : Int32) * iv_) &&& 0x3f).toInt64.toUInt64).toInt64) &&& (63 : Int64)))]))
    refine Ends.go (fun _ => XS.l2i X0.here hx rfl (hb hby d5_21) rfl) ?_
    show Ends p.tables e below G (s₁.setTop (mkF m 22 #[iv iv_, iv nv, iv vv, .val (.long dd), .second, un] [(.int ((((dd.toUInt64 >>> (((6 : Int32) * iv_) &&& 0x3f).toInt64.toUInt64).toInt64) &&& (63 : Int64)).toInt32))]))
    refine Ends.go (fun _ => XS.istore X0.here hx rfl (hb hby d5_22) rfl (l' := #[iv iv_, iv nv, iv vv, .val (.long dd), .second, iv ((((dd.toUInt64 >>> (((6 : Int32) * iv_) &&& 0x3f).toInt64.toUInt64).toInt64) &&& (63 : Int64)).toInt32)]) rfl) ?_
    show Ends p.tables e below G (s₁.setTop (mkF m 24 #[iv iv_, iv nv, iv vv, .val (.long dd), .second, iv ((((dd.toUInt64 >>> (((6 : Int32) * iv_) &&& 0x3f).toInt64.toUInt64).toInt64) &&& (63 : Int64)).toInt32)] []))
    obtain ⟨k, hk6, hk⟩ : ∃ k : Nat, k < 64 ∧ ((((dd.toUInt64 >>> (((6 : Int32) * iv_) &&& 0x3f).toInt64.toUInt64).toInt64) &&& (63 : Int64)).toInt32).toInt = (k : Int) := own_k6 _
    generalize ((((dd.toUInt64 >>> (((6 : Int32) * iv_) &&& 0x3f).toInt64.toUInt64).toInt64) &&& (63 : Int64)).toInt32) = kv at hk ⊢
    show Ends p.tables e below G (s₁.setTop (mkF m 24 #[iv iv_, iv nv, iv vv, .val (.long dd), .second, iv kv] []))
    refine Ends.go (fun _ => XS.iload X0.here hx rfl (hb hby d5_24) rfl) ?_
    show Ends p.tables e below G (s₁.setTop (mkF m 26 #[iv iv_, iv nv, iv vv, .val (.long dd), .second, iv kv] [(.int kv)]))
    obtain ⟨_, _, ⟨T2, L2, k2, n2⟩, -, X2, ⟨Lc2, hQ2, l2, y2, z2⟩, st2⟩ := Jvm.LawKit.callS X0 hx (y := (⟨"com/example/belge/belge/Base64CheckIsCompletePinLaw", "digit", "(I)B"⟩ : MethodName)) hown (mvT hZ (hw _ (List.mem_of_getElem? (i := 30) rfl))) (mvT hZ (hw _ (List.mem_of_getElem? (i := 31) rfl))) (mvT hZ (hw _ (List.mem_of_getElem? (i := 27) rfl))) (mvT hZ (hw _ (List.mem_of_getElem? (i := 32) rfl))) (by decide) (backOf (W := 0) (rm6 l Z a0 hw [] kv k VT h0 n0 Z0 hk hk6 hV.1 hV.2.1 hV.2.2.1 hV.2.2.2.1 hV.2.2.2.2.1) hZ (hw _ (List.mem_of_getElem? (i := 32) rfl)) (hw _ (List.mem_of_getElem? (i := 27) rfl)) (by decide) (by decide)) (g := (mkF m 26 #[iv iv_, iv nv, iv vv, .val (.long dd), .second, iv kv] [(.int kv)])) rfl (by rw [hml]; rfl) (argsL := [(.int kv)]) (rest := []) (lenOf pd_0 rfl) rfl (by show 2 * 0 + _ ≤ _; exact Nat.le_of_eq rfl) (hb hby d5_26) (fun _ _ => ⟨rfl, e0, (by decide : 0 + 0 ≤ _), (by decide : 0 + 0 ≤ _)⟩)
    dsimp only [Pt.U, Pt.locs, Pt.cells, Pt.slots] at X2 l2 y2 z2 st2 hQ2
    subst l2 y2 z2
    obtain ⟨r2, rfl, N2q, e2, hd2⟩ := hQ2
    have N2 := Fr.app N0 N2q
    refine Ends.go (fun _ => st2 _) ?_
    show Ends p.tables e below G (T2.setTop (mkF m 29 #[iv iv_, iv nv, iv vv, .val (.long dd), .second, iv kv] [(.int r2)]))
    refine own_finS (t := .byte) X2 hx Bd.returns (by simp) Bd.notSynchronized (hb hby d5_29) (Q := (Q5 Z iv_ nv vv dd i n vn VT h0 n0)) hG (by decide) (by decide) ?_
    show (Q5 Z iv_ nv vv dd i n vn VT h0 n0) _ T2.heap _
    rw [e2]
    exact ⟨_, rfl, N2, rfl, by rw [own_ixn, hd2]; rw [Int32.lt_iff_toInt_lt, hk]; have u : (0 : Int32).toInt = 0 := rfl; omega, fun o => absurd o q⟩
theorem d1_0 : decode prog_114_method_1_code 0 = .ok (.aload_n 0, 1) := by decide +kernel
theorem d1_1 : decode prog_114_method_1_code 1 = .ok (.invokespecial 1, 3) := by decide +kernel
theorem pd_1 : parseMethodDescriptor "()V" = some ⟨[], none⟩ := by decide +kernel
theorem d1_4 : decode prog_114_method_1_code 4 = .ok (.return_, 1) := by decide +kernel
theorem pn_1 : plainName "com/example/belge/belge/SimpleTypes$Base64Check" = true := by first | (simp [plainName, overriddenIn]; done) | decide +kernel
theorem ef_1 (m : MethodId) (x0 : Addr) : entryFrame m #[(.ref x0)] 1 = mkF m 0 #[rv x0] [] := by first | (simp [entryFrame, mkF, argsToLocals, Value.category]; done) | rfl
def Q1 (Z : State) (r : Addr) (h0 : Heap) (n0 : Nat) (v : Option Value) (h : Heap) (L : List Loc) : Prop := v = none ∧ Fr n0 L ∧ h = h0
set_option maxRecDepth 65536 in
set_option maxHeartbeats 40000000 in
theorem rm1 (l : Launch) (Z : State) (a0 : Array Value) (hw : ∀ d ∈ tables_1, d.before a0 Z = true) (ws : List Jvm.Cond) (r : Addr) (h0 : Heap) (n0 : Nat) (Z0 : n0 ≤ h0.size) :
    MetFree l (⟨"com/example/belge/belge/SimpleTypes$Base64Check", "<init>", "()V"⟩ : MethodName) (head1 (Jvm.Cond.code (⟨"com/example/belge/belge/SimpleTypes$Base64Check", "<init>", "()V"⟩ : MethodName) prog_114_method_1_code 1 none :: ws) ({ frames := 1, cells := 0, slots := 0, locals := 12 } : Room)) (fun a U => a = #[(.ref r)] ∧ Z.Warmed39 U.vm ∧ U.heap = h0) (fun _ _ _ _ _ => True) (fun _ U o U' => ∃ v L, o = .returned v ∧ Q1 Z r h0 n0 v U'.heap L ∧ FrameEnd U o U' L ({ frames := 1, cells := 0, slots := 0, locals := 12 } : Room).cells ({ frames := 1, cells := 0, slots := 0, locals := 12 } : Room).slots) := by
  refine MetFree.of_bodySF (plainFor_of_name pn_1) hisR ?_
  intro p e s m args below meth c s₁ Bd hml0 hP hK
  obtain ⟨rfl, hZ, hh⟩ := hP
  have hx := Bd.exec
  have hby := Bd.bytes
  have hml : c.maxLocals = 1 := hml0
  have hown : s.vm.findClass "com/example/belge/belge/SimpleTypes$Base64Check" = some m.cls := findClass_of_methodNamed Bd.named
  have hnm := (name_of_methodNamed Bd.named Bd.method).1
  have X0 : Stand p l e ({ frames := 1, cells := 0, slots := 0, locals := 12 } : Room) s m #[(.ref r)] below meth c s₁ [] 0 0 := Stand.of_body Bd
  have e0 : s₁.heap = h0 := by rw [← hh, Bd.state]; rfl
  have N0 := Fr.nil n0
  show Ends p.tables e below (fun (s₂ : State) (o : Outcome) => ∃ v L, o = .returned v ∧ (Q1 Z r h0 n0) v s₂.heap L ∧ FrameEnd s o s₂ L ({ frames := 1, cells := 0, slots := 0, locals := 12 } : Room).cells ({ frames := 1, cells := 0, slots := 0, locals := 12 } : Room).slots) (s₁.setTop (entryFrame m #[(.ref r)] 1))
  refine Ends.any fun G hG => ?_
  refine Ends.go (fun t k => castTop (ef_1 m r) k) ?_
  show Ends p.tables e below G (s₁.setTop (mkF m 0 #[rv r] []))
  refine Ends.go (fun _ => XS.aloadN X0.here hx rfl (hb hby d1_0) rfl rfl) ?_
  show Ends p.tables e below G (s₁.setTop (mkF m 1 #[rv r] [(.ref r)]))
  obtain ⟨T1, X1, e1, st1⟩ := initO X0 hx hZ hown (hw _ (List.mem_of_getElem? (i := 8) rfl)) (hw _ (List.mem_of_getElem? (i := 9) rfl)) (hw _ (List.mem_of_getElem? (i := 10) rfl)) e0 (g := (mkF m 1 #[rv r] [(.ref r)])) rfl (by rw [hml]; rfl) rfl (hb hby d1_1) (by decide) (W := 0) (by show 2 * 0 + _ ≤ _; exact Nat.le_of_eq rfl) (by decide)
  refine Ends.go (fun _ => st1 _) ?_
  show Ends p.tables e below G (T1.setTop (mkF m 4 #[rv r] []))
  refine own_finN X1 hx Bd.returns Bd.notSynchronized (hb hby d1_4) (Q := (Q1 Z r h0 n0)) hG (by decide) (by decide) ?_
  show (Q1 Z r h0 n0) _ T1.heap _
  rw [e1]
  exact ⟨rfl, N0, rfl⟩
def own_full (a : Nat × Nat × Int32) : Prop := (a.1 + a.2.1) % 4 = 0 ∧ (a.2.1 = 0 ∨ (a.2.1 = 2 ∧ a.2.2 &&& 15 = 0) ∨ (a.2.1 = 1 ∧ a.2.2 &&& 3 = 0))
theorem d4_0 : decode prog_114_method_4_code 0 = .ok (.aload_n 0, 1) := by decide +kernel
theorem d4_1 : decode prog_114_method_4_code 1 = .ok (.getfield 7, 3) := by decide +kernel
theorem d4_4 : decode prog_114_method_4_code 4 = .ok (.aload_n 0, 1) := by decide +kernel
theorem d4_5 : decode prog_114_method_4_code 5 = .ok (.getfield 13, 3) := by decide +kernel
theorem d4_8 : decode prog_114_method_4_code 8 = .ok (.iadd, 1) := by decide +kernel
theorem d4_9 : decode prog_114_method_4_code 9 = .ok (.iconst 4, 1) := by decide +kernel
theorem d4_10 : decode prog_114_method_4_code 10 = .ok (.irem, 1) := by decide +kernel
theorem d4_11 : decode prog_114_method_4_code 11 = .ok (.ifCond .eq 5, 3) := by decide +kernel
theorem d4_14 : decode prog_114_method_4_code 14 = .ok (.iconst 0, 1) := by decide +kernel
theorem d4_15 : decode prog_114_method_4_code 15 = .ok (.ireturn, 1) := by decide +kernel
theorem d4_16 : decode prog_114_method_4_code 16 = .ok (.aload_n 0, 1) := by decide +kernel
theorem d4_17 : decode prog_114_method_4_code 17 = .ok (.getfield 13, 3) := by decide +kernel
theorem d4_20 : decode prog_114_method_4_code 20 = .ok (.ifCond .eq 38, 3) := by decide +kernel
theorem d4_23 : decode prog_114_method_4_code 23 = .ok (.aload_n 0, 1) := by decide +kernel
theorem d4_24 : decode prog_114_method_4_code 24 = .ok (.getfield 13, 3) := by decide +kernel
theorem d4_27 : decode prog_114_method_4_code 27 = .ok (.iconst 2, 1) := by decide +kernel
theorem d4_28 : decode prog_114_method_4_code 28 = .ok (.if_icmp .ne 13, 3) := by decide +kernel
theorem d4_31 : decode prog_114_method_4_code 31 = .ok (.aload_n 0, 1) := by decide +kernel
theorem d4_32 : decode prog_114_method_4_code 32 = .ok (.getfield 16, 3) := by decide +kernel
theorem d4_35 : decode prog_114_method_4_code 35 = .ok (.bipush 15, 2) := by decide +kernel
theorem d4_37 : decode prog_114_method_4_code 37 = .ok (.iand, 1) := by decide +kernel
theorem d4_38 : decode prog_114_method_4_code 38 = .ok (.ifCond .eq 20, 3) := by decide +kernel
theorem d4_41 : decode prog_114_method_4_code 41 = .ok (.aload_n 0, 1) := by decide +kernel
theorem d4_42 : decode prog_114_method_4_code 42 = .ok (.getfield 13, 3) := by decide +kernel
theorem d4_45 : decode prog_114_method_4_code 45 = .ok (.iconst 1, 1) := by decide +kernel
theorem d4_46 : decode prog_114_method_4_code 46 = .ok (.if_icmp .ne 16, 3) := by decide +kernel
theorem d4_49 : decode prog_114_method_4_code 49 = .ok (.aload_n 0, 1) := by decide +kernel
theorem d4_50 : decode prog_114_method_4_code 50 = .ok (.getfield 16, 3) := by decide +kernel
theorem d4_53 : decode prog_114_method_4_code 53 = .ok (.iconst 3, 1) := by decide +kernel
theorem d4_54 : decode prog_114_method_4_code 54 = .ok (.iand, 1) := by decide +kernel
theorem d4_55 : decode prog_114_method_4_code 55 = .ok (.ifCond .ne 7, 3) := by decide +kernel
theorem d4_58 : decode prog_114_method_4_code 58 = .ok (.iconst 1, 1) := by decide +kernel
theorem d4_59 : decode prog_114_method_4_code 59 = .ok (.goto 4, 3) := by decide +kernel
theorem d4_62 : decode prog_114_method_4_code 62 = .ok (.iconst 0, 1) := by decide +kernel
theorem d4_63 : decode prog_114_method_4_code 63 = .ok (.ireturn, 1) := by decide +kernel
theorem pn_4 : plainName "com/example/belge/belge/SimpleTypes$Base64Check" = true := by first | (simp [plainName, overriddenIn]; done) | decide +kernel
theorem ef_4 (m : MethodId) (x0 : Addr) : entryFrame m #[(.ref x0)] 1 = mkF m 0 #[rv x0] [] := by first | (simp [entryFrame, mkF, argsToLocals, Value.category]; done) | rfl
def Q4 (Z : State) (r : Addr) (tx : Addr) (va : Addr) (F : Nat → Int32) (VT : Nat → Int32) (ag : Nat × Nat × Int32) (h0 : Heap) (n0 : Nat) (v : Option Value) (h : Heap) (L : List Loc) : Prop := ∃ q : Int32, v = some (.int q) ∧ Fr n0 L ∧ h = h0 ∧ ((q = 1 ∧ own_full ag) ∨ (q = 0 ∧ ¬ own_full ag))
set_option maxRecDepth 65536 in
set_option maxHeartbeats 40000000 in
theorem rm4 (l : Launch) (Z : State) (a0 : Array Value) (hw : ∀ d ∈ tables_1, d.before a0 Z = true) (ws : List Jvm.Cond) (r : Addr) (tx : Addr) (va : Addr) (F : Nat → Int32) (VT : Nat → Int32) (ag : Nat × Nat × Int32) (h0 : Heap) (n0 : Nat) (Z0 : n0 ≤ h0.size) (hR : BC Z h0 r tx va F VT ag) (hb1 : ag.1 ≤ 24) (hb2 : ag.2.1 ≤ 2) :
    MetFree l (⟨"com/example/belge/belge/SimpleTypes$Base64Check", "isComplete", "()Z"⟩ : MethodName) (head1 (Jvm.Cond.code (⟨"com/example/belge/belge/SimpleTypes$Base64Check", "isComplete", "()Z"⟩ : MethodName) prog_114_method_4_code 1 (some .boolean) :: ws) ({ frames := 0, cells := 0, slots := 0, locals := 0 } : Room)) (fun a U => a = #[(.ref r)] ∧ Z.Warmed39 U.vm ∧ U.heap = h0) (fun _ _ _ _ _ => True) (fun _ U o U' => ∃ v L, o = .returned v ∧ Q4 Z r tx va F VT ag h0 n0 v U'.heap L ∧ FrameEnd U o U' L ({ frames := 0, cells := 0, slots := 0, locals := 0 } : Room).cells ({ frames := 0, cells := 0, slots := 0, locals := 0 } : Room).slots) := by
  refine MetFree.of_bodySF (plainFor_of_name pn_4) hisR ?_
  intro p e s m args below meth c s₁ Bd hml0 hP hK
  obtain ⟨rfl, hZ, hh⟩ := hP
  have hx := Bd.exec
  have hby := Bd.bytes
  have hml : c.maxLocals = 1 := hml0
  have hown : s.vm.findClass "com/example/belge/belge/SimpleTypes$Base64Check" = some m.cls := findClass_of_methodNamed Bd.named
  have hnm := (name_of_methodNamed Bd.named Bd.method).1
  have X0 : Stand p l e ({ frames := 0, cells := 0, slots := 0, locals := 0 } : Room) s m #[(.ref r)] below meth c s₁ [] 0 0 := Stand.of_body Bd
  have e0 : s₁.heap = h0 := by rw [← hh, Bd.state]; rfl
  have N0 := Fr.nil n0
  show Ends p.tables e below (fun (s₂ : State) (o : Outcome) => ∃ v L, o = .returned v ∧ (Q4 Z r tx va F VT ag h0 n0) v s₂.heap L ∧ FrameEnd s o s₂ L ({ frames := 0, cells := 0, slots := 0, locals := 0 } : Room).cells ({ frames := 0, cells := 0, slots := 0, locals := 0 } : Room).slots) (s₁.setTop (entryFrame m #[(.ref r)] 1))
  refine Ends.any fun G hG => ?_
  refine Ends.go (fun t k => castTop (ef_4 m r) k) ?_
  show Ends p.tables e below G (s₁.setTop (mkF m 0 #[rv r] []))
  obtain ⟨E_r, ⟨cv, F_c, hcv⟩, ⟨pv, F_p, hpv⟩, F_l, V_t, V_v, S_v⟩ := hR
  have hs := own_add hcv hpv (by omega)
  have hr := own_iremV (x := cv + pv) (y := 4) (b := 4) (by omega) rfl
  refine Ends.go (fun _ => XS.aloadN X0.here hx rfl (hb hby d4_0) rfl rfl) ?_
  show Ends p.tables e below G (s₁.setTop (mkF m 1 #[rv r] [(.ref r)]))
  obtain ⟨T1, X1, e1, st1⟩ := getF X0 hx hZ hown (host := "") (Or.inl (hw _ (List.mem_of_getElem? (i := 21) rfl))) Via.refl e0 F_c (g := (mkF m 1 #[rv r] [(.ref r)])) rfl rfl (hb hby d4_1)
  refine Ends.go (fun _ => st1 _) ?_
  show Ends p.tables e below G (T1.setTop (mkF m 4 #[rv r] [(.int cv)]))
  refine Ends.go (fun _ => XS.aloadN X1.here hx rfl (hb hby d4_4) rfl rfl) ?_
  show Ends p.tables e below G (T1.setTop (mkF m 5 #[rv r] [(.ref r), (.int cv)]))
  obtain ⟨T2, X2, e2, st2⟩ := getF X1 hx hZ hown (host := "") (Or.inl (hw _ (List.mem_of_getElem? (i := 23) rfl))) Via.refl e1 F_p (g := (mkF m 5 #[rv r] [(.ref r), (.int cv)])) rfl rfl (hb hby d4_5)
  refine Ends.go (fun _ => st2 _) ?_
  show Ends p.tables e below G (T2.setTop (mkF m 8 #[rv r] [(.int pv), (.int cv)]))
  refine Ends.go (fun _ => XS.iadd X2.here hx rfl (hb hby d4_8) rfl) ?_
  show Ends p.tables e below G (T2.setTop (mkF m 9 #[rv r] [(.int (cv + pv))]))
  refine Ends.go (fun _ => XS.iconst X2.here hx rfl (hb hby d4_9)) ?_
  show Ends p.tables e below G (T2.setTop (mkF m 10 #[rv r] [(.int (4 : Int32)), (.int (cv + pv))]))
  refine Ends.go (fun _ => XS.irem X2.here hx rfl (hb hby d4_10) rfl (by decide)) ?_
  show Ends p.tables e below G (T2.setTop (mkF m 11 #[rv r] [(.int ((cv + pv) - ((cv + pv) / (4 : Int32)) * (4 : Int32)))]))
  have o0 : (0 : Int32).toInt = 0 := rfl
  by_cases q0 : (ag.1 + ag.2.1) % 4 = 0
  · refine Ends.go (fun _ => XS.ifYes X2.here hx rfl (pc0 := 11) (pc' := 16) rfl (hb hby d4_11) rfl ((if0 _ _).trans (teq (Int32.toInt_inj.mp (by rw [hr, hs]; omega) : ((cv + pv) - ((cv + pv) / (4 : Int32)) * (4 : Int32)) = (0 : Int32))).1) (by decide) (by decide)) ?_
    show Ends p.tables e below G (T2.setTop (mkF m 16 #[rv r] []))
    refine Ends.go (fun _ => XS.aloadN X2.here hx rfl (hb hby d4_16) rfl rfl) ?_
    show Ends p.tables e below G (T2.setTop (mkF m 17 #[rv r] [(.ref r)]))
    obtain ⟨T3, X3, e3, st3⟩ := getF X2 hx hZ hown (host := "") (Or.inl (hw _ (List.mem_of_getElem? (i := 23) rfl))) Via.refl e2 F_p (g := (mkF m 17 #[rv r] [(.ref r)])) rfl rfl (hb hby d4_17)
    refine Ends.go (fun _ => st3 _) ?_
    show Ends p.tables e below G (T3.setTop (mkF m 20 #[rv r] [(.int pv)]))
    by_cases q1 : ag.2.1 = 0
    · refine Ends.go (fun _ => XS.ifYes X3.here hx rfl (pc0 := 20) (pc' := 58) rfl (hb hby d4_20) rfl ((if0 _ _).trans (teq (Int32.toInt_inj.mp (by rw [hpv, q1]; rfl) : pv = (0 : Int32))).1) (by decide) (by decide)) ?_
      show Ends p.tables e below G (T3.setTop (mkF m 58 #[rv r] []))
      refine Ends.go (fun _ => XS.iconst X3.here hx rfl (hb hby d4_58)) ?_
      show Ends p.tables e below G (T3.setTop (mkF m 59 #[rv r] [(.int (1 : Int32))]))
      refine Ends.go (fun _ => XS.goto X3.here hx rfl (pc0 := 59) (pc' := 63) rfl (hb hby d4_59) (by decide) (by decide)) ?_
      show Ends p.tables e below G (T3.setTop (mkF m 63 #[rv r] [(.int (1 : Int32))]))
      refine own_finS (t := .boolean) X3 hx Bd.returns (by simp) Bd.notSynchronized (hb hby d4_63) (Q := (Q4 Z r tx va F VT ag h0 n0)) hG (by decide) (by decide) ?_
      show (Q4 Z r tx va F VT ag h0 n0) _ T3.heap _
      rw [e3]
      exact ⟨_, rfl, N0, rfl, Or.inl ⟨rfl, q0, Or.inl q1⟩⟩
    · refine Ends.go (fun _ => XS.ifNo X3.here hx rfl (hb hby d4_20) rfl ((if0 _ _).trans (feq (fun z => q1 (by have := congrArg Int32.toInt z; rw [hpv] at this; omega) : ¬ (pv = (0 : Int32)))).1)) ?_
      show Ends p.tables e below G (T3.setTop (mkF m 23 #[rv r] []))
      refine Ends.go (fun _ => XS.aloadN X3.here hx rfl (hb hby d4_23) rfl rfl) ?_
      show Ends p.tables e below G (T3.setTop (mkF m 24 #[rv r] [(.ref r)]))
      obtain ⟨T4, X4, e4, st4⟩ := getF X3 hx hZ hown (host := "") (Or.inl (hw _ (List.mem_of_getElem? (i := 23) rfl))) Via.refl e3 F_p (g := (mkF m 24 #[rv r] [(.ref r)])) rfl rfl (hb hby d4_24)
      refine Ends.go (fun _ => st4 _) ?_
      show Ends p.tables e below G (T4.setTop (mkF m 27 #[rv r] [(.int pv)]))
      refine Ends.go (fun _ => XS.iconst X4.here hx rfl (hb hby d4_27)) ?_
      show Ends p.tables e below G (T4.setTop (mkF m 28 #[rv r] [(.int (2 : Int32)), (.int pv)]))
      by_cases q2 : ag.2.1 = 2
      · refine Ends.go (fun _ => XS.icmpNo X4.here hx rfl (hb hby d4_28) rfl (teq ((own_eqn hpv (b := 2) rfl).mpr q2 : pv = (2 : Int32))).2) ?_
        show Ends p.tables e below G (T4.setTop (mkF m 31 #[rv r] []))
        refine Ends.go (fun _ => XS.aloadN X4.here hx rfl (hb hby d4_31) rfl rfl) ?_
        show Ends p.tables e below G (T4.setTop (mkF m 32 #[rv r] [(.ref r)]))
        obtain ⟨T5, X5, e5, st5⟩ := getF X4 hx hZ hown (host := "") (Or.inl (hw _ (List.mem_of_getElem? (i := 38) rfl))) Via.refl e4 F_l (g := (mkF m 32 #[rv r] [(.ref r)])) rfl rfl (hb hby d4_32)
        refine Ends.go (fun _ => st5 _) ?_
        show Ends p.tables e below G (T5.setTop (mkF m 35 #[rv r] [(.int ag.2.2)]))
        refine Ends.go (fun _ => XS.bipush X5.here hx rfl (hb hby d4_35)) ?_
        show Ends p.tables e below G (T5.setTop (mkF m 37 #[rv r] [(.int (15 : Int32)), (.int ag.2.2)]))
        refine Ends.go (fun _ => XS.iand X5.here hx rfl (hb hby d4_37) rfl) ?_
        show Ends p.tables e below G (T5.setTop (mkF m 38 #[rv r] [(.int (ag.2.2 &&& (15 : Int32)))]))
        by_cases q3 : ag.2.2 &&& 15 = 0
        · refine Ends.go (fun _ => XS.ifYes X5.here hx rfl (pc0 := 38) (pc' := 58) rfl (hb hby d4_38) rfl ((if0 _ _).trans (teq (q3 : (ag.2.2 &&& (15 : Int32)) = (0 : Int32))).1) (by decide) (by decide)) ?_
          show Ends p.tables e below G (T5.setTop (mkF m 58 #[rv r] []))
          refine Ends.go (fun _ => XS.iconst X5.here hx rfl (hb hby d4_58)) ?_
          show Ends p.tables e below G (T5.setTop (mkF m 59 #[rv r] [(.int (1 : Int32))]))
          refine Ends.go (fun _ => XS.goto X5.here hx rfl (pc0 := 59) (pc' := 63) rfl (hb hby d4_59) (by decide) (by decide)) ?_
          show Ends p.tables e below G (T5.setTop (mkF m 63 #[rv r] [(.int (1 : Int32))]))
          refine own_finS (t := .boolean) X5 hx Bd.returns (by simp) Bd.notSynchronized (hb hby d4_63) (Q := (Q4 Z r tx va F VT ag h0 n0)) hG (by decide) (by decide) ?_
          show (Q4 Z r tx va F VT ag h0 n0) _ T5.heap _
          rw [e5]
          exact ⟨_, rfl, N0, rfl, Or.inl ⟨rfl, q0, Or.inr (Or.inl ⟨q2, q3⟩)⟩⟩
        · refine Ends.go (fun _ => XS.ifNo X5.here hx rfl (hb hby d4_38) rfl ((if0 _ _).trans (feq (q3 : ¬ ((ag.2.2 &&& (15 : Int32)) = (0 : Int32)))).1)) ?_
          show Ends p.tables e below G (T5.setTop (mkF m 41 #[rv r] []))
          refine Ends.go (fun _ => XS.aloadN X5.here hx rfl (hb hby d4_41) rfl rfl) ?_
          show Ends p.tables e below G (T5.setTop (mkF m 42 #[rv r] [(.ref r)]))
          obtain ⟨T6, X6, e6, st6⟩ := getF X5 hx hZ hown (host := "") (Or.inl (hw _ (List.mem_of_getElem? (i := 23) rfl))) Via.refl e5 F_p (g := (mkF m 42 #[rv r] [(.ref r)])) rfl rfl (hb hby d4_42)
          refine Ends.go (fun _ => st6 _) ?_
          show Ends p.tables e below G (T6.setTop (mkF m 45 #[rv r] [(.int pv)]))
          refine Ends.go (fun _ => XS.iconst X6.here hx rfl (hb hby d4_45)) ?_
          show Ends p.tables e below G (T6.setTop (mkF m 46 #[rv r] [(.int (1 : Int32)), (.int pv)]))
          refine Ends.go (fun _ => XS.icmpYes X6.here hx rfl (pc0 := 46) (pc' := 62) rfl (hb hby d4_46) rfl (feq (fun z => absurd ((own_eqn hpv (b := 1) rfl).mp z) (by omega) : ¬ (pv = (1 : Int32)))).2 (by decide) (by decide)) ?_
          show Ends p.tables e below G (T6.setTop (mkF m 62 #[rv r] []))
          refine Ends.go (fun _ => XS.iconst X6.here hx rfl (hb hby d4_62)) ?_
          show Ends p.tables e below G (T6.setTop (mkF m 63 #[rv r] [(.int (0 : Int32))]))
          refine own_finS (t := .boolean) X6 hx Bd.returns (by simp) Bd.notSynchronized (hb hby d4_63) (Q := (Q4 Z r tx va F VT ag h0 n0)) hG (by decide) (by decide) ?_
          show (Q4 Z r tx va F VT ag h0 n0) _ T6.heap _
          rw [e6]
          exact ⟨_, rfl, N0, rfl, Or.inr ⟨rfl, fun o => o.2.elim q1 fun o => o.elim (fun o => q3 o.2) fun o => absurd o.1 (by omega)⟩⟩
      · refine Ends.go (fun _ => XS.icmpYes X4.here hx rfl (pc0 := 28) (pc' := 41) rfl (hb hby d4_28) rfl (feq (fun z => q2 ((own_eqn hpv (b := 2) rfl).mp z) : ¬ (pv = (2 : Int32)))).2 (by decide) (by decide)) ?_
        show Ends p.tables e below G (T4.setTop (mkF m 41 #[rv r] []))
        refine Ends.go (fun _ => XS.aloadN X4.here hx rfl (hb hby d4_41) rfl rfl) ?_
        show Ends p.tables e below G (T4.setTop (mkF m 42 #[rv r] [(.ref r)]))
        obtain ⟨T7, X7, e7, st7⟩ := getF X4 hx hZ hown (host := "") (Or.inl (hw _ (List.mem_of_getElem? (i := 23) rfl))) Via.refl e4 F_p (g := (mkF m 42 #[rv r] [(.ref r)])) rfl rfl (hb hby d4_42)
        refine Ends.go (fun _ => st7 _) ?_
        show Ends p.tables e below G (T7.setTop (mkF m 45 #[rv r] [(.int pv)]))
        refine Ends.go (fun _ => XS.iconst X7.here hx rfl (hb hby d4_45)) ?_
        show Ends p.tables e below G (T7.setTop (mkF m 46 #[rv r] [(.int (1 : Int32)), (.int pv)]))
        by_cases q4 : ag.2.1 = 1
        · refine Ends.go (fun _ => XS.icmpNo X7.here hx rfl (hb hby d4_46) rfl (teq ((own_eqn hpv (b := 1) rfl).mpr q4 : pv = (1 : Int32))).2) ?_
          show Ends p.tables e below G (T7.setTop (mkF m 49 #[rv r] []))
          refine Ends.go (fun _ => XS.aloadN X7.here hx rfl (hb hby d4_49) rfl rfl) ?_
          show Ends p.tables e below G (T7.setTop (mkF m 50 #[rv r] [(.ref r)]))
          obtain ⟨T8, X8, e8, st8⟩ := getF X7 hx hZ hown (host := "") (Or.inl (hw _ (List.mem_of_getElem? (i := 38) rfl))) Via.refl e7 F_l (g := (mkF m 50 #[rv r] [(.ref r)])) rfl rfl (hb hby d4_50)
          refine Ends.go (fun _ => st8 _) ?_
          show Ends p.tables e below G (T8.setTop (mkF m 53 #[rv r] [(.int ag.2.2)]))
          refine Ends.go (fun _ => XS.iconst X8.here hx rfl (hb hby d4_53)) ?_
          show Ends p.tables e below G (T8.setTop (mkF m 54 #[rv r] [(.int (3 : Int32)), (.int ag.2.2)]))
          refine Ends.go (fun _ => XS.iand X8.here hx rfl (hb hby d4_54) rfl) ?_
          show Ends p.tables e below G (T8.setTop (mkF m 55 #[rv r] [(.int (ag.2.2 &&& (3 : Int32)))]))
          by_cases q5 : ag.2.2 &&& 3 = 0
          · refine Ends.go (fun _ => XS.ifNo X8.here hx rfl (hb hby d4_55) rfl ((if0 _ _).trans (teq (q5 : (ag.2.2 &&& (3 : Int32)) = (0 : Int32))).2)) ?_
            show Ends p.tables e below G (T8.setTop (mkF m 58 #[rv r] []))
            refine Ends.go (fun _ => XS.iconst X8.here hx rfl (hb hby d4_58)) ?_
            show Ends p.tables e below G (T8.setTop (mkF m 59 #[rv r] [(.int (1 : Int32))]))
            refine Ends.go (fun _ => XS.goto X8.here hx rfl (pc0 := 59) (pc' := 63) rfl (hb hby d4_59) (by decide) (by decide)) ?_
            show Ends p.tables e below G (T8.setTop (mkF m 63 #[rv r] [(.int (1 : Int32))]))
            refine own_finS (t := .boolean) X8 hx Bd.returns (by simp) Bd.notSynchronized (hb hby d4_63) (Q := (Q4 Z r tx va F VT ag h0 n0)) hG (by decide) (by decide) ?_
            show (Q4 Z r tx va F VT ag h0 n0) _ T8.heap _
            rw [e8]
            exact ⟨_, rfl, N0, rfl, Or.inl ⟨rfl, q0, Or.inr (Or.inr ⟨q4, q5⟩)⟩⟩
          · refine Ends.go (fun _ => XS.ifYes X8.here hx rfl (pc0 := 55) (pc' := 62) rfl (hb hby d4_55) rfl ((if0 _ _).trans (feq (q5 : ¬ ((ag.2.2 &&& (3 : Int32)) = (0 : Int32)))).2) (by decide) (by decide)) ?_
            show Ends p.tables e below G (T8.setTop (mkF m 62 #[rv r] []))
            refine Ends.go (fun _ => XS.iconst X8.here hx rfl (hb hby d4_62)) ?_
            show Ends p.tables e below G (T8.setTop (mkF m 63 #[rv r] [(.int (0 : Int32))]))
            refine own_finS (t := .boolean) X8 hx Bd.returns (by simp) Bd.notSynchronized (hb hby d4_63) (Q := (Q4 Z r tx va F VT ag h0 n0)) hG (by decide) (by decide) ?_
            show (Q4 Z r tx va F VT ag h0 n0) _ T8.heap _
            rw [e8]
            exact ⟨_, rfl, N0, rfl, Or.inr ⟨rfl, fun o => o.2.elim q1 fun o => o.elim (fun o => q2 o.1) fun o => q5 o.2⟩⟩
        · refine Ends.go (fun _ => XS.icmpYes X7.here hx rfl (pc0 := 46) (pc' := 62) rfl (hb hby d4_46) rfl (feq (fun z => q4 ((own_eqn hpv (b := 1) rfl).mp z) : ¬ (pv = (1 : Int32)))).2 (by decide) (by decide)) ?_
          show Ends p.tables e below G (T7.setTop (mkF m 62 #[rv r] []))
          refine Ends.go (fun _ => XS.iconst X7.here hx rfl (hb hby d4_62)) ?_
          show Ends p.tables e below G (T7.setTop (mkF m 63 #[rv r] [(.int (0 : Int32))]))
          refine own_finS (t := .boolean) X7 hx Bd.returns (by simp) Bd.notSynchronized (hb hby d4_63) (Q := (Q4 Z r tx va F VT ag h0 n0)) hG (by decide) (by decide) ?_
          show (Q4 Z r tx va F VT ag h0 n0) _ T7.heap _
          rw [e7]
          exact ⟨_, rfl, N0, rfl, Or.inr ⟨rfl, fun o => o.2.elim q1 fun o => o.elim (fun o => q2 o.1) fun o => q4 o.1⟩⟩
  · refine Ends.go (fun _ => XS.ifNo X2.here hx rfl (hb hby d4_11) rfl ((if0 _ _).trans (feq (fun z => q0 (by have := congrArg Int32.toInt z; rw [hr, hs] at this; omega) : ¬ (((cv + pv) - ((cv + pv) / (4 : Int32)) * (4 : Int32)) = (0 : Int32)))).1)) ?_
    show Ends p.tables e below G (T2.setTop (mkF m 14 #[rv r] []))
    refine Ends.go (fun _ => XS.iconst X2.here hx rfl (hb hby d4_14)) ?_
    show Ends p.tables e below G (T2.setTop (mkF m 15 #[rv r] [(.int (0 : Int32))]))
    refine own_finS (t := .boolean) X2 hx Bd.returns (by simp) Bd.notSynchronized (hb hby d4_15) (Q := (Q4 Z r tx va F VT ag h0 n0)) hG (by decide) (by decide) ?_
    show (Q4 Z r tx va F VT ag h0 n0) _ T2.heap _
    rw [e2]
    exact ⟨_, rfl, N0, rfl, Or.inr ⟨rfl, fun o => q0 o.1⟩⟩
theorem d3_0 : decode prog_114_method_3_code 0 = .ok (.iload_n 2, 1) := by decide +kernel
theorem d3_1 : decode prog_114_method_3_code 1 = .ok (.istore 4, 2) := by decide +kernel
theorem d3_3 : decode prog_114_method_3_code 3 = .ok (.iload 4, 2) := by decide +kernel
theorem d3_5 : decode prog_114_method_3_code 5 = .ok (.iload_n 3, 1) := by decide +kernel
theorem d3_6 : decode prog_114_method_3_code 6 = .ok (.if_icmp .ge 138, 3) := by decide +kernel
theorem d3_9 : decode prog_114_method_3_code 9 = .ok (.aload_n 0, 1) := by decide +kernel
theorem d3_10 : decode prog_114_method_3_code 10 = .ok (.getfield 13, 3) := by decide +kernel
theorem d3_13 : decode prog_114_method_3_code 13 = .ok (.ifCond .ne 81, 3) := by decide +kernel
theorem d3_16 : decode prog_114_method_3_code 16 = .ok (.iload 4, 2) := by decide +kernel
theorem d3_18 : decode prog_114_method_3_code 18 = .ok (.istore 5, 2) := by decide +kernel
theorem d3_20 : decode prog_114_method_3_code 20 = .ok (.iload 4, 2) := by decide +kernel
theorem d3_22 : decode prog_114_method_3_code 22 = .ok (.iload_n 3, 1) := by decide +kernel
theorem d3_23 : decode prog_114_method_3_code 23 = .ok (.if_icmp .ge 24, 3) := by decide +kernel
theorem d3_26 : decode prog_114_method_3_code 26 = .ok (.getstatic 19, 3) := by decide +kernel
theorem d3_29 : decode prog_114_method_3_code 29 = .ok (.aload_n 1, 1) := by decide +kernel
theorem d3_30 : decode prog_114_method_3_code 30 = .ok (.iload 4, 2) := by decide +kernel
theorem d3_32 : decode prog_114_method_3_code 32 = .ok (.baload, 1) := by decide +kernel
theorem d3_33 : decode prog_114_method_3_code 33 = .ok (.sipush 255, 3) := by decide +kernel
theorem d3_36 : decode prog_114_method_3_code 36 = .ok (.iand, 1) := by decide +kernel
theorem d3_37 : decode prog_114_method_3_code 37 = .ok (.baload, 1) := by decide +kernel
theorem d3_38 : decode prog_114_method_3_code 38 = .ok (.ifCond .lt 9, 3) := by decide +kernel
theorem d3_41 : decode prog_114_method_3_code 41 = .ok (.iinc 4 1, 3) := by decide +kernel
theorem d3_44 : decode prog_114_method_3_code 44 = .ok (.goto (-24), 3) := by decide +kernel
theorem d3_47 : decode prog_114_method_3_code 47 = .ok (.iload 4, 2) := by decide +kernel
theorem d3_49 : decode prog_114_method_3_code 49 = .ok (.iload 5, 2) := by decide +kernel
theorem d3_51 : decode prog_114_method_3_code 51 = .ok (.if_icmp .le 35, 3) := by decide +kernel
theorem d3_54 : decode prog_114_method_3_code 54 = .ok (.aload_n 0, 1) := by decide +kernel
theorem d3_55 : decode prog_114_method_3_code 55 = .ok (.dup, 1) := by decide +kernel
theorem d3_56 : decode prog_114_method_3_code 56 = .ok (.getfield 7, 3) := by decide +kernel
theorem d3_59 : decode prog_114_method_3_code 59 = .ok (.iload 4, 2) := by decide +kernel
theorem d3_61 : decode prog_114_method_3_code 61 = .ok (.iload 5, 2) := by decide +kernel
theorem d3_63 : decode prog_114_method_3_code 63 = .ok (.isub, 1) := by decide +kernel
theorem d3_64 : decode prog_114_method_3_code 64 = .ok (.iadd, 1) := by decide +kernel
theorem d3_65 : decode prog_114_method_3_code 65 = .ok (.putfield 7, 3) := by decide +kernel
theorem d3_68 : decode prog_114_method_3_code 68 = .ok (.aload_n 0, 1) := by decide +kernel
theorem d3_69 : decode prog_114_method_3_code 69 = .ok (.getstatic 19, 3) := by decide +kernel
theorem d3_72 : decode prog_114_method_3_code 72 = .ok (.aload_n 1, 1) := by decide +kernel
theorem d3_73 : decode prog_114_method_3_code 73 = .ok (.iload 4, 2) := by decide +kernel
theorem d3_75 : decode prog_114_method_3_code 75 = .ok (.iconst 1, 1) := by decide +kernel
theorem d3_76 : decode prog_114_method_3_code 76 = .ok (.isub, 1) := by decide +kernel
theorem d3_77 : decode prog_114_method_3_code 77 = .ok (.baload, 1) := by decide +kernel
theorem d3_78 : decode prog_114_method_3_code 78 = .ok (.sipush 255, 3) := by decide +kernel
theorem d3_81 : decode prog_114_method_3_code 81 = .ok (.iand, 1) := by decide +kernel
theorem d3_82 : decode prog_114_method_3_code 82 = .ok (.baload, 1) := by decide +kernel
theorem d3_83 : decode prog_114_method_3_code 83 = .ok (.putfield 16, 3) := by decide +kernel
theorem d3_86 : decode prog_114_method_3_code 86 = .ok (.iload 4, 2) := by decide +kernel
theorem d3_88 : decode prog_114_method_3_code 88 = .ok (.iload_n 3, 1) := by decide +kernel
theorem d3_89 : decode prog_114_method_3_code 89 = .ok (.if_icmp .ne 5, 3) := by decide +kernel
theorem d3_92 : decode prog_114_method_3_code 92 = .ok (.iconst 1, 1) := by decide +kernel
theorem d3_93 : decode prog_114_method_3_code 93 = .ok (.ireturn, 1) := by decide +kernel
theorem d3_94 : decode prog_114_method_3_code 94 = .ok (.aload_n 1, 1) := by decide +kernel
theorem d3_95 : decode prog_114_method_3_code 95 = .ok (.iload 4, 2) := by decide +kernel
theorem d3_97 : decode prog_114_method_3_code 97 = .ok (.iinc 4 1, 3) := by decide +kernel
theorem d3_100 : decode prog_114_method_3_code 100 = .ok (.baload, 1) := by decide +kernel
theorem d3_101 : decode prog_114_method_3_code 101 = .ok (.istore 5, 2) := by decide +kernel
theorem d3_103 : decode prog_114_method_3_code 103 = .ok (.iload 5, 2) := by decide +kernel
theorem d3_105 : decode prog_114_method_3_code 105 = .ok (.bipush 61, 2) := by decide +kernel
theorem d3_107 : decode prog_114_method_3_code 107 = .ok (.if_icmp .ne 24, 3) := by decide +kernel
theorem d3_110 : decode prog_114_method_3_code 110 = .ok (.aload_n 0, 1) := by decide +kernel
theorem d3_111 : decode prog_114_method_3_code 111 = .ok (.getfield 13, 3) := by decide +kernel
theorem d3_114 : decode prog_114_method_3_code 114 = .ok (.iconst 2, 1) := by decide +kernel
theorem d3_115 : decode prog_114_method_3_code 115 = .ok (.if_icmp .ge 16, 3) := by decide +kernel
theorem d3_118 : decode prog_114_method_3_code 118 = .ok (.aload_n 0, 1) := by decide +kernel
theorem d3_119 : decode prog_114_method_3_code 119 = .ok (.dup, 1) := by decide +kernel
theorem d3_120 : decode prog_114_method_3_code 120 = .ok (.getfield 13, 3) := by decide +kernel
theorem d3_123 : decode prog_114_method_3_code 123 = .ok (.iconst 1, 1) := by decide +kernel
theorem d3_124 : decode prog_114_method_3_code 124 = .ok (.iadd, 1) := by decide +kernel
theorem d3_125 : decode prog_114_method_3_code 125 = .ok (.putfield 13, 3) := by decide +kernel
theorem d3_128 : decode prog_114_method_3_code 128 = .ok (.goto 13, 3) := by decide +kernel
theorem d3_131 : decode prog_114_method_3_code 131 = .ok (.iload 5, 2) := by decide +kernel
theorem d3_133 : decode prog_114_method_3_code 133 = .ok (.invokestatic 23, 3) := by decide +kernel
theorem pd_2 : parseMethodDescriptor "(I)Z" = some ⟨[.int], some .boolean⟩ := by decide +kernel
theorem d3_136 : decode prog_114_method_3_code 136 = .ok (.ifCond .ne 5, 3) := by decide +kernel
theorem d3_139 : decode prog_114_method_3_code 139 = .ok (.iconst 0, 1) := by decide +kernel
theorem d3_140 : decode prog_114_method_3_code 140 = .ok (.ireturn, 1) := by decide +kernel
theorem d3_141 : decode prog_114_method_3_code 141 = .ok (.goto (-138), 3) := by decide +kernel
theorem d3_144 : decode prog_114_method_3_code 144 = .ok (.iconst 1, 1) := by decide +kernel
theorem d3_145 : decode prog_114_method_3_code 145 = .ok (.ireturn, 1) := by decide +kernel
theorem pn_3 : plainName "com/example/belge/belge/SimpleTypes$Base64Check" = true := by first | (simp [plainName, overriddenIn]; done) | decide +kernel
theorem ef_3 (m : MethodId) (x0 : Addr) (x1 : Addr) (x2 : Int32) (x3 : Int32) : entryFrame m #[(.ref x0), (.ref x1), (.int x2), (.int x3)] 6 = mkF m 0 #[rv x0, rv x1, iv x2, iv x3, un, un] [] := by first | (simp [entryFrame, mkF, argsToLocals, Value.category]; done) | rfl
def Q3 (Z : State) (r : Addr) (tx : Addr) (stv : Int32) (env : Int32) (va : Addr) (F : Nat → Int32) (VT : Nat → Int32) (ag : Nat × Nat × Int32) (fin : Nat × Nat × Int32) (st : Nat) (en : Nat) (h0 : Heap) (n0 : Nat) (v : Option Value) (h : Heap) (L : List Loc) : Prop := v = some (.int 1) ∧ Fr n0 L ∧ n0 ≤ h.size ∧ BC Z h r tx va F VT fin
set_option maxRecDepth 65536 in
set_option maxHeartbeats 40000000 in
theorem rm3 (l : Launch) (Z : State) (a0 : Array Value) (hw : ∀ d ∈ tables_1, d.before a0 Z = true) (ws : List Jvm.Cond) (r : Addr) (tx : Addr) (stv : Int32) (env : Int32) (va : Addr) (F : Nat → Int32) (VT : Nat → Int32) (ag : Nat × Nat × Int32) (fin : Nat × Nat × Int32) (st : Nat) (en : Nat) (h0 : Heap) (n0 : Nat) (Z0 : n0 ≤ h0.size) (hR : BC Z h0 r tx va F VT ag) (g_r : n0 ≤ r) (hst : stv.toInt = (st : Int)) (hen : env.toInt = (en : Int)) (hse : st ≤ en) (he12 : en ≤ 12) (hT : own_tk VT F ag st (en - st) = some fin) (hbd0 : ag.1 ≤ 12) (hp2 : ag.2.1 ≤ 2) :
    MetFree l (⟨"com/example/belge/belge/SimpleTypes$Base64Check", "take", "([BII)Z"⟩ : MethodName) (head1 (Jvm.Cond.code (⟨"com/example/belge/belge/SimpleTypes$Base64Check", "take", "([BII)Z"⟩ : MethodName) prog_114_method_3_code 6 (some .boolean) :: ws) ({ frames := 1, cells := 0, slots := 0, locals := 12 } : Room)) (fun a U => a = #[(.ref r), (.ref tx), (.int stv), (.int env)] ∧ Z.Warmed39 U.vm ∧ U.heap = h0) (fun _ _ _ _ _ => True) (fun _ U o U' => ∃ v L, o = .returned v ∧ Q3 Z r tx stv env va F VT ag fin st en h0 n0 v U'.heap L ∧ FrameEnd U o U' L ({ frames := 1, cells := 0, slots := 0, locals := 12 } : Room).cells ({ frames := 1, cells := 0, slots := 0, locals := 12 } : Room).slots) := by
  refine MetFree.of_bodySF (plainFor_of_name pn_3) hisR ?_
  intro p e s m args below meth c s₁ Bd hml0 hP hK
  obtain ⟨rfl, hZ, hh⟩ := hP
  have hx := Bd.exec
  have hby := Bd.bytes
  have hml : c.maxLocals = 6 := hml0
  have hown : s.vm.findClass "com/example/belge/belge/SimpleTypes$Base64Check" = some m.cls := findClass_of_methodNamed Bd.named
  have hnm := (name_of_methodNamed Bd.named Bd.method).1
  have X0 : Stand p l e ({ frames := 1, cells := 0, slots := 0, locals := 12 } : Room) s m #[(.ref r), (.ref tx), (.int stv), (.int env)] below meth c s₁ [] 0 0 := Stand.of_body Bd
  have e0 : s₁.heap = h0 := by rw [← hh, Bd.state]; rfl
  have N0 := Fr.nil n0
  show Ends p.tables e below (fun (s₂ : State) (o : Outcome) => ∃ v L, o = .returned v ∧ (Q3 Z r tx stv env va F VT ag fin st en h0 n0) v s₂.heap L ∧ FrameEnd s o s₂ L ({ frames := 1, cells := 0, slots := 0, locals := 12 } : Room).cells ({ frames := 1, cells := 0, slots := 0, locals := 12 } : Room).slots) (s₁.setTop (entryFrame m #[(.ref r), (.ref tx), (.int stv), (.int env)] 6))
  refine Ends.any fun G hG => ?_
  refine Ends.go (fun t k => castTop (ef_3 m r tx stv env) k) ?_
  show Ends p.tables e below G (s₁.setTop (mkF m 0 #[rv r, rv tx, iv stv, iv env, un, un] []))
  refine Ends.go (fun _ => XS.iloadN X0.here hx rfl (hb hby d3_0) rfl) ?_
  show Ends p.tables e below G (s₁.setTop (mkF m 1 #[rv r, rv tx, iv stv, iv env, un, un] [(.int stv)]))
  refine Ends.go (fun _ => XS.istore X0.here hx rfl (hb hby d3_1) rfl (l' := #[rv r, rv tx, iv stv, iv env, iv stv, un]) rfl) ?_
  show Ends p.tables e below G (s₁.setTop (mkF m 3 #[rv r, rv tx, iv stv, iv env, iv stv, un] []))
  have outer : ∀ (k : Nat) (T9 : State) (L9 : List Loc) (h9 : Heap) (i : Nat) (iw : Int32) (s5 : Slot) (ag : Nat × Nat × Int32), Stand p l e ({ frames := 1, cells := 0, slots := 0, locals := 12 } : Room) s m #[(.ref r), (.ref tx), (.int stv), (.int env)] below meth c T9 L9 0 0 → T9.heap = h9 → Fr n0 L9 → n0 ≤ h9.size → BC Z h9 r tx va F VT ag → iw.toInt = (i : Int) → i + k = en → One s5 → own_tk VT F ag i k = some fin → ag.1 + k ≤ 24 → ag.2.1 ≤ 2 → Ends p.tables e below G (T9.setTop (mkF m 3 #[rv r, rv tx, iv stv, iv env, iv iw, s5] [])) := by
    intro k
    induction k using Nat.strongRecOn with
    | ind k ih =>
      have at94 : ∀ (T9 : State) (L9 : List Loc) (h9 : Heap) (j k' : Nat) (jv : Int32) (s5 : Slot) (ch pd : Nat) (la : Int32), Stand p l e ({ frames := 1, cells := 0, slots := 0, locals := 12 } : Room) s m #[(.ref r), (.ref tx), (.int stv), (.int env)] below meth c T9 L9 0 0 → T9.heap = h9 → Fr n0 L9 → n0 ≤ h9.size → BC Z h9 r tx va F VT (ch, pd, la) → jv.toInt = (j : Int) → j + (k' + 1) = en → k' < k → One s5 → own_tk VT F (ch, pd, la) j (k' + 1) = some fin → (pd = 0 → VT (own_ix (F j)) < 0) → ch + k' + 1 ≤ 24 → pd ≤ 2 → Ends p.tables e below G (T9.setTop (mkF m 94 #[rv r, rv tx, iv stv, iv env, iv jv, s5] [])) := by
        intro T9 L9 h9 j k' jv s5 ch pd la X9 e9 N9 sz9 hR hj hjk hk' h5 hT hneg hbb hp2
        obtain ⟨a', hs, hT'⟩ := own_tk_cons hT
        have hj1 := own_add hj (b := 1) (y := 1) rfl (by omega)
        obtain ⟨E_ra, ⟨cva, F_ca, hcva⟩, ⟨pva, F_pa, hpva⟩, F_la, V_ta, V_va, S_va⟩ := hR
        have ne_ta : tx ≠ r := own_neA E_ra (hw _ (List.mem_of_getElem? (i := 3) rfl)) V_ta
        have ne_va : va ≠ r := own_neA E_ra (hw _ (List.mem_of_getElem? (i := 3) rfl)) V_va
        refine Ends.go (fun _ => XS.aloadN X9.here hx rfl (hb hby d3_94) rfl rfl) ?_
        show Ends p.tables e below G (T9.setTop (mkF m 95 #[rv r, rv tx, iv stv, iv env, iv jv, s5] [(.ref tx)]))
        refine Ends.go (fun _ => XS.iload X9.here hx rfl (hb hby d3_95) rfl) ?_
        show Ends p.tables e below G (T9.setTop (mkF m 97 #[rv r, rv tx, iv stv, iv env, iv jv, s5] [(.int jv), (.ref tx)]))
        refine Ends.go (fun _ => XS.iinc X9.here hx rfl (hb hby d3_97) rfl (l' := #[rv r, rv tx, iv stv, iv env, iv (jv + (1 : Int32)), s5]) rfl) ?_
        show Ends p.tables e below G (T9.setTop (mkF m 100 #[rv r, rv tx, iv stv, iv env, iv (jv + (1 : Int32)), s5] [(.int jv), (.ref tx)]))
        refine Ends.go (fun _ => AF.ldB V_ta X9 hx hZ e9 (j := jv) (i := j) hj (by omega) (v := (.int (F j))) rfl (g := (mkF m 100 #[rv r, rv tx, iv stv, iv env, iv (jv + (1 : Int32)), s5] [(.int jv), (.ref tx)])) rfl rfl (hb hby d3_100) _) ?_
        show Ends p.tables e below G (T9.setTop (mkF m 101 #[rv r, rv tx, iv stv, iv env, iv (jv + (1 : Int32)), s5] [(.int (F j))]))
        refine Ends.go (fun _ => XS.istore X9.here hx rfl (hb hby d3_101) rfl (l' := #[rv r, rv tx, iv stv, iv env, iv (jv + (1 : Int32)), iv (F j)]) (XS.store1 rfl h5 rfl)) ?_
        show Ends p.tables e below G (T9.setTop (mkF m 103 #[rv r, rv tx, iv stv, iv env, iv (jv + (1 : Int32)), iv (F j)] []))
        refine Ends.go (fun _ => XS.iload X9.here hx rfl (hb hby d3_103) rfl) ?_
        show Ends p.tables e below G (T9.setTop (mkF m 105 #[rv r, rv tx, iv stv, iv env, iv (jv + (1 : Int32)), iv (F j)] [(.int (F j))]))
        refine Ends.go (fun _ => XS.bipush X9.here hx rfl (hb hby d3_105)) ?_
        show Ends p.tables e below G (T9.setTop (mkF m 107 #[rv r, rv tx, iv stv, iv env, iv (jv + (1 : Int32)), iv (F j)] [(.int (61 : Int32)), (.int (F j))]))
        rcases own_stp_cases hneg hs with ⟨c1, c2, c3⟩ | ⟨c1, c2, c3⟩
        · refine Ends.go (fun _ => XS.icmpNo X9.here hx rfl (hb hby d3_107) rfl (teq (c1 : (F j) = (61 : Int32))).2) ?_
          show Ends p.tables e below G (T9.setTop (mkF m 110 #[rv r, rv tx, iv stv, iv env, iv (jv + (1 : Int32)), iv (F j)] []))
          refine Ends.go (fun _ => XS.aloadN X9.here hx rfl (hb hby d3_110) rfl rfl) ?_
          show Ends p.tables e below G (T9.setTop (mkF m 111 #[rv r, rv tx, iv stv, iv env, iv (jv + (1 : Int32)), iv (F j)] [(.ref r)]))
          obtain ⟨T1, X1, e1, st1⟩ := getF X9 hx hZ hown (host := "") (Or.inl (hw _ (List.mem_of_getElem? (i := 23) rfl))) Via.refl e9 F_pa (g := (mkF m 111 #[rv r, rv tx, iv stv, iv env, iv (jv + (1 : Int32)), iv (F j)] [(.ref r)])) rfl rfl (hb hby d3_111)
          refine Ends.go (fun _ => st1 _) ?_
          show Ends p.tables e below G (T1.setTop (mkF m 114 #[rv r, rv tx, iv stv, iv env, iv (jv + (1 : Int32)), iv (F j)] [(.int pva)]))
          refine Ends.go (fun _ => XS.iconst X1.here hx rfl (hb hby d3_114)) ?_
          show Ends p.tables e below G (T1.setTop (mkF m 115 #[rv r, rv tx, iv stv, iv env, iv (jv + (1 : Int32)), iv (F j)] [(.int (2 : Int32)), (.int pva)]))
          refine Ends.go (fun _ => XS.icmpNo X1.here hx rfl (hb hby d3_115) rfl (tlt ((own_lt hpva (b := 2) rfl).mpr c2 : pva < (2 : Int32))).2.1) ?_
          show Ends p.tables e below G (T1.setTop (mkF m 118 #[rv r, rv tx, iv stv, iv env, iv (jv + (1 : Int32)), iv (F j)] []))
          refine Ends.go (fun _ => XS.aloadN X1.here hx rfl (hb hby d3_118) rfl rfl) ?_
          show Ends p.tables e below G (T1.setTop (mkF m 119 #[rv r, rv tx, iv stv, iv env, iv (jv + (1 : Int32)), iv (F j)] [(.ref r)]))
          refine Ends.go (fun _ => XS.dup X1.here hx rfl (hb hby d3_119) rfl rfl) ?_
          show Ends p.tables e below G (T1.setTop (mkF m 120 #[rv r, rv tx, iv stv, iv env, iv (jv + (1 : Int32)), iv (F j)] [(.ref r), (.ref r)]))
          obtain ⟨T2, X2, e2, st2⟩ := getF X1 hx hZ hown (host := "") (Or.inl (hw _ (List.mem_of_getElem? (i := 23) rfl))) Via.refl e1 F_pa (g := (mkF m 120 #[rv r, rv tx, iv stv, iv env, iv (jv + (1 : Int32)), iv (F j)] [(.ref r), (.ref r)])) rfl rfl (hb hby d3_120)
          refine Ends.go (fun _ => st2 _) ?_
          show Ends p.tables e below G (T2.setTop (mkF m 123 #[rv r, rv tx, iv stv, iv env, iv (jv + (1 : Int32)), iv (F j)] [(.int pva), (.ref r)]))
          refine Ends.go (fun _ => XS.iconst X2.here hx rfl (hb hby d3_123)) ?_
          show Ends p.tables e below G (T2.setTop (mkF m 124 #[rv r, rv tx, iv stv, iv env, iv (jv + (1 : Int32)), iv (F j)] [(.int (1 : Int32)), (.int pva), (.ref r)]))
          refine Ends.go (fun _ => XS.iadd X2.here hx rfl (hb hby d3_124) rfl) ?_
          show Ends p.tables e below G (T2.setTop (mkF m 125 #[rv r, rv tx, iv stv, iv env, iv (jv + (1 : Int32)), iv (F j)] [(.int (pva + (1 : Int32))), (.ref r)]))
          obtain ⟨T3, h3, X3, e3, W3, st3⟩ := putF X2 hx hZ hown (host := "") (Or.inl (hw _ (List.mem_of_getElem? (i := 23) rfl))) Via.refl e2 F_pa E_ra (Or.inl (hw _ (List.mem_of_getElem? (i := 24) rfl))) (hw _ (List.mem_of_getElem? (i := 3) rfl)) (ty := .int) (by decide) rfl rfl (g := (mkF m 125 #[rv r, rv tx, iv stv, iv env, iv (jv + (1 : Int32)), iv (F j)] [(.int (pva + (1 : Int32))), (.ref r)])) rfl rfl (hb hby d3_125)
          have f3_E_r := E_ra.wr W3
          have f3_F_r_characters := F_ca.other W3 (Or.inr (slot_ne (Or.inl (hw _ (List.mem_of_getElem? (i := 22) rfl))) (Or.inl (hw _ (List.mem_of_getElem? (i := 24) rfl))) (by decide) (t := .int) (t' := .int) (by decide) (by decide)))
          have f3_F_r_padding := F_pa.same W3
          have f3_F_r_last := F_la.other W3 (Or.inr (slot_ne (Or.inl (hw _ (List.mem_of_getElem? (i := 39) rfl))) (Or.inl (hw _ (List.mem_of_getElem? (i := 24) rfl))) (by decide) (t := .int) (t' := .int) (by decide) (by decide)))
          have f3_V_tx := AF.other V_ta W3 ne_ta
          have f3_V_va := AF.other V_va W3 ne_va
          have f3_T_com_example_belge_belge_SimpleTypes_Base64Check_VALUES := S_va.wr W3
          have sz3 := Nat.le_trans sz9 (Nat.le_of_eq W3.size.symm)
          have N3 := Fr.snoc X3 N9 g_r
          refine Ends.go (fun _ => st3 _) ?_
          show Ends p.tables e below G (T3.setTop (mkF m 128 #[rv r, rv tx, iv stv, iv env, iv (jv + (1 : Int32)), iv (F j)] []))
          refine Ends.go (fun _ => XS.goto X3.here hx rfl (pc0 := 128) (pc' := 141) rfl (hb hby d3_128) (by decide) (by decide)) ?_
          show Ends p.tables e below G (T3.setTop (mkF m 141 #[rv r, rv tx, iv stv, iv env, iv (jv + (1 : Int32)), iv (F j)] []))
          refine Ends.go (fun _ => XS.goto X3.here hx rfl (pc0 := 141) (pc' := 3) rfl (hb hby d3_141) (by decide) (by decide)) ?_
          show Ends p.tables e below G (T3.setTop (mkF m 3 #[rv r, rv tx, iv stv, iv env, iv (jv + (1 : Int32)), iv (F j)] []))
          subst c3
          exact ih k' hk' _ _ _ (j + 1) _ _ (ch, pd + 1, la) X3 e3 N3 sz3 ⟨f3_E_r, ⟨_, f3_F_r_characters, hcva⟩, ⟨_, f3_F_r_padding, (own_add hpva (b := 1) (y := 1) rfl (by omega))⟩, f3_F_r_last, f3_V_tx, f3_V_va, f3_T_com_example_belge_belge_SimpleTypes_Base64Check_VALUES⟩ hj1 (by omega) (One.val rfl) hT' (by show ch + k' ≤ 24; omega) (by show pd + 1 ≤ 2; omega)
        · refine Ends.go (fun _ => XS.icmpYes X9.here hx rfl (pc0 := 107) (pc' := 131) rfl (hb hby d3_107) rfl (feq (c1 : ¬ ((F j) = (61 : Int32)))).2 (by decide) (by decide)) ?_
          show Ends p.tables e below G (T9.setTop (mkF m 131 #[rv r, rv tx, iv stv, iv env, iv (jv + (1 : Int32)), iv (F j)] []))
          refine Ends.go (fun _ => XS.iload X9.here hx rfl (hb hby d3_131) rfl) ?_
          show Ends p.tables e below G (T9.setTop (mkF m 133 #[rv r, rv tx, iv stv, iv env, iv (jv + (1 : Int32)), iv (F j)] [(.int (F j))]))
          obtain ⟨_, _, ⟨T4, L4, k4, n4⟩, -, X4, ⟨Lc4, hQ4, l4, y4, z4⟩, st4⟩ := Jvm.LawKit.callS X9 hx (y := (⟨"com/example/belge/belge/XmlScanner", "isSpace", "(I)Z"⟩ : MethodName)) hown (mvT hZ (hw _ (List.mem_of_getElem? (i := 40) rfl))) (mvT hZ (hw _ (List.mem_of_getElem? (i := 41) rfl))) (mvT hZ (hw _ (List.mem_of_getElem? (i := 42) rfl))) (mvT hZ (hw _ (List.mem_of_getElem? (i := 43) rfl))) (by decide) (backOf (W := 0) (rm8 l Z a0 hw [] (F j) h9 n0 sz9) hZ (hw _ (List.mem_of_getElem? (i := 43) rfl)) (hw _ (List.mem_of_getElem? (i := 42) rfl)) (by decide) (by decide)) (g := (mkF m 133 #[rv r, rv tx, iv stv, iv env, iv (jv + (1 : Int32)), iv (F j)] [(.int (F j))])) rfl (by rw [hml]; rfl) (argsL := [(.int (F j))]) (rest := []) (lenOf pd_2 rfl) rfl (by show 2 * 0 + _ ≤ _; exact Nat.le_of_eq rfl) (hb hby d3_133) (fun _ _ => ⟨rfl, e9, (by decide : 0 + 0 ≤ _), (by decide : 0 + 0 ≤ _)⟩)
          dsimp only [Pt.U, Pt.locs, Pt.cells, Pt.slots] at X4 l4 y4 z4 st4 hQ4
          subst l4 y4 z4
          obtain ⟨rs, rfl, N4q, e4, hrs⟩ := hQ4
          have N4 := Fr.app N9 N4q
          refine Ends.go (fun _ => st4 _) ?_
          show Ends p.tables e below G (T4.setTop (mkF m 136 #[rv r, rv tx, iv stv, iv env, iv (jv + (1 : Int32)), iv (F j)] [(.int rs)]))
          refine Ends.go (fun _ => XS.ifYes X4.here hx rfl (pc0 := 136) (pc' := 141) rfl (hb hby d3_136) rfl ((if0 _ _).trans (feq (by rcases hrs with d | d; exact fun z => absurd (d.1.symm.trans z) (by decide); exact absurd c2 d.2 : ¬ (rs = (0 : Int32)))).2) (by decide) (by decide)) ?_
          show Ends p.tables e below G (T4.setTop (mkF m 141 #[rv r, rv tx, iv stv, iv env, iv (jv + (1 : Int32)), iv (F j)] []))
          refine Ends.go (fun _ => XS.goto X4.here hx rfl (pc0 := 141) (pc' := 3) rfl (hb hby d3_141) (by decide) (by decide)) ?_
          show Ends p.tables e below G (T4.setTop (mkF m 3 #[rv r, rv tx, iv stv, iv env, iv (jv + (1 : Int32)), iv (F j)] []))
          subst c3
          exact ih k' hk' _ _ _ (j + 1) _ _ (ch, pd, la) X4 e4 N4 sz9 ⟨E_ra, ⟨_, F_ca, hcva⟩, ⟨_, F_pa, hpva⟩, F_la, V_ta, V_va, S_va⟩ hj1 (by omega) (One.val rfl) hT' (by show ch + k' ≤ 24; omega) hp2
      have at86 : ∀ (T9 : State) (L9 : List Loc) (h9 : Heap) (j k' : Nat) (jv x5 : Int32) (ch : Nat) (la : Int32), Stand p l e ({ frames := 1, cells := 0, slots := 0, locals := 12 } : Room) s m #[(.ref r), (.ref tx), (.int stv), (.int env)] below meth c T9 L9 0 0 → T9.heap = h9 → Fr n0 L9 → n0 ≤ h9.size → BC Z h9 r tx va F VT (ch, 0, la) → jv.toInt = (j : Int) → j + k' = en → k' ≤ k → own_tk VT F (ch, 0, la) j k' = some fin → (k' = 0 ∨ VT (own_ix (F j)) < 0) → ch + k' ≤ 24 → Ends p.tables e below G (T9.setTop (mkF m 86 #[rv r, rv tx, iv stv, iv env, iv jv, iv x5] [])) := by
        intro T9 L9 h9 j k' jv x5 ch la X9 e9 N9 sz9 hR hj hjk hk' hT hneg hbb
        refine Ends.go (fun _ => XS.iload X9.here hx rfl (hb hby d3_86) rfl) ?_
        show Ends p.tables e below G (T9.setTop (mkF m 88 #[rv r, rv tx, iv stv, iv env, iv jv, iv x5] [(.int jv)]))
        refine Ends.go (fun _ => XS.iloadN X9.here hx rfl (hb hby d3_88) rfl) ?_
        show Ends p.tables e below G (T9.setTop (mkF m 89 #[rv r, rv tx, iv stv, iv env, iv jv, iv x5] [(.int env), (.int jv)]))
        by_cases q : k' = 0
        · refine Ends.go (fun _ => XS.icmpNo X9.here hx rfl (hb hby d3_89) rfl (teq ((own_eqn hj hen).mpr (by omega) : jv = env)).2) ?_
          show Ends p.tables e below G (T9.setTop (mkF m 92 #[rv r, rv tx, iv stv, iv env, iv jv, iv x5] []))
          refine Ends.go (fun _ => XS.iconst X9.here hx rfl (hb hby d3_92)) ?_
          show Ends p.tables e below G (T9.setTop (mkF m 93 #[rv r, rv tx, iv stv, iv env, iv jv, iv x5] [(.int (1 : Int32))]))
          refine own_finS (t := .boolean) X9 hx Bd.returns (by simp) Bd.notSynchronized (hb hby d3_93) (Q := (Q3 Z r tx stv env va F VT ag fin st en h0 n0)) hG (by decide) (by decide) ?_
          show (Q3 Z r tx stv env va F VT ag fin st en h0 n0) _ T9.heap _
          rw [e9]
          subst q; have hf : some (ch, 0, la) = some fin := hT; cases hf; exact ⟨rfl, N9, sz9, hR⟩
        · refine Ends.go (fun _ => XS.icmpYes X9.here hx rfl (pc0 := 89) (pc' := 94) rfl (hb hby d3_89) rfl (feq (fun z => q (by have := (own_eqn hj hen).mp z; omega) : ¬ (jv = env))).2 (by decide) (by decide)) ?_
          show Ends p.tables e below G (T9.setTop (mkF m 94 #[rv r, rv tx, iv stv, iv env, iv jv, iv x5] []))
          obtain ⟨k2, rfl⟩ : ∃ k2, k' = k2 + 1 := ⟨k' - 1, by omega⟩
          exact at94 _ _ _ j k2 _ _ ch 0 la X9 e9 N9 sz9 hR hj hjk (by omega) (One.val rfl) hT (fun _ => hneg.resolve_left (by omega)) (by omega) (by omega)
      intro T9 L9 h9 i iw s5 ag X9 e9 N9 sz9 hR hi hik h5 hT hbb hp2
      obtain ⟨ch, pd, la⟩ := ag
      simp only at hbb hp2
      refine Ends.go (fun _ => XS.iload X9.here hx rfl (hb hby d3_3) rfl) ?_
      show Ends p.tables e below G (T9.setTop (mkF m 5 #[rv r, rv tx, iv stv, iv env, iv iw, s5] [(.int iw)]))
      refine Ends.go (fun _ => XS.iloadN X9.here hx rfl (hb hby d3_5) rfl) ?_
      show Ends p.tables e below G (T9.setTop (mkF m 6 #[rv r, rv tx, iv stv, iv env, iv iw, s5] [(.int env), (.int iw)]))
      by_cases q : k = 0
      · refine Ends.go (fun _ => XS.icmpYes X9.here hx rfl (pc0 := 6) (pc' := 144) rfl (hb hby d3_6) rfl (flt (fun z => absurd ((own_lt hi hen).mp z) (by omega) : ¬ (iw < env))).2.1 (by decide) (by decide)) ?_
        show Ends p.tables e below G (T9.setTop (mkF m 144 #[rv r, rv tx, iv stv, iv env, iv iw, s5] []))
        refine Ends.go (fun _ => XS.iconst X9.here hx rfl (hb hby d3_144)) ?_
        show Ends p.tables e below G (T9.setTop (mkF m 145 #[rv r, rv tx, iv stv, iv env, iv iw, s5] [(.int (1 : Int32))]))
        refine own_finS (t := .boolean) X9 hx Bd.returns (by simp) Bd.notSynchronized (hb hby d3_145) (Q := (Q3 Z r tx stv env va F VT ag fin st en h0 n0)) hG (by decide) (by decide) ?_
        show (Q3 Z r tx stv env va F VT ag fin st en h0 n0) _ T9.heap _
        rw [e9]
        subst q; have hf : some (ch, pd, la) = some fin := hT; cases hf; exact ⟨rfl, N9, sz9, hR⟩
      · have hR' := hR
        obtain ⟨E_rb, ⟨cvb, F_cb, hcvb⟩, ⟨pvb, F_pb, hpvb⟩, F_lb, V_tb, V_vb, S_vb⟩ := hR
        have ne_tb : tx ≠ r := own_neA E_rb (hw _ (List.mem_of_getElem? (i := 3) rfl)) V_tb
        have ne_vb : va ≠ r := own_neA E_rb (hw _ (List.mem_of_getElem? (i := 3) rfl)) V_vb
        refine Ends.go (fun _ => XS.icmpNo X9.here hx rfl (hb hby d3_6) rfl (tlt ((own_lt hi hen).mpr (by omega) : iw < env)).2.1) ?_
        show Ends p.tables e below G (T9.setTop (mkF m 9 #[rv r, rv tx, iv stv, iv env, iv iw, s5] []))
        refine Ends.go (fun _ => XS.aloadN X9.here hx rfl (hb hby d3_9) rfl rfl) ?_
        show Ends p.tables e below G (T9.setTop (mkF m 10 #[rv r, rv tx, iv stv, iv env, iv iw, s5] [(.ref r)]))
        obtain ⟨T5, X5, e5, st5⟩ := getF X9 hx hZ hown (host := "") (Or.inl (hw _ (List.mem_of_getElem? (i := 23) rfl))) Via.refl e9 F_pb (g := (mkF m 10 #[rv r, rv tx, iv stv, iv env, iv iw, s5] [(.ref r)])) rfl rfl (hb hby d3_10)
        refine Ends.go (fun _ => st5 _) ?_
        show Ends p.tables e below G (T5.setTop (mkF m 13 #[rv r, rv tx, iv stv, iv env, iv iw, s5] [(.int pvb)]))
        by_cases q2 : pd = 0
        · refine Ends.go (fun _ => XS.ifNo X5.here hx rfl (hb hby d3_13) rfl ((if0 _ _).trans (teq (Int32.toInt_inj.mp (by rw [hpvb]; show ((pd : Nat) : Int) = 0; omega) : pvb = (0 : Int32))).2)) ?_
          show Ends p.tables e below G (T5.setTop (mkF m 16 #[rv r, rv tx, iv stv, iv env, iv iw, s5] []))
          subst q2
          refine Ends.go (fun _ => XS.iload X5.here hx rfl (hb hby d3_16) rfl) ?_
          show Ends p.tables e below G (T5.setTop (mkF m 18 #[rv r, rv tx, iv stv, iv env, iv iw, s5] [(.int iw)]))
          refine Ends.go (fun _ => XS.istore X5.here hx rfl (hb hby d3_18) rfl (l' := #[rv r, rv tx, iv stv, iv env, iv iw, iv iw]) (XS.store1 rfl h5 rfl)) ?_
          show Ends p.tables e below G (T5.setTop (mkF m 20 #[rv r, rv tx, iv stv, iv env, iv iw, iv iw] []))
          have at47 : ∀ (T7 : State) (j k' : Nat) (jv : Int32), Stand p l e ({ frames := 1, cells := 0, slots := 0, locals := 12 } : Room) s m #[(.ref r), (.ref tx), (.int stv), (.int env)] below meth c T7 L9 0 0 → T7.heap = h9 → jv.toInt = (j : Int) → i ≤ j → j + k' = en → own_tk VT F (ch + (j - i), 0, if i < j then VT (own_ix (F (j - 1))) else la) j k' = some fin → (k' = 0 ∨ VT (own_ix (F j)) < 0) → Ends p.tables e below G (T7.setTop (mkF m 47 #[rv r, rv tx, iv stv, iv env, iv jv, iv iw] [])) := by
            intro T7 j k' jv X7 e7 hj hij hjk hT7 hneg
            refine Ends.go (fun _ => XS.iload X7.here hx rfl (hb hby d3_47) rfl) ?_
            show Ends p.tables e below G (T7.setTop (mkF m 49 #[rv r, rv tx, iv stv, iv env, iv jv, iv iw] [(.int jv)]))
            refine Ends.go (fun _ => XS.iload X7.here hx rfl (hb hby d3_49) rfl) ?_
            show Ends p.tables e below G (T7.setTop (mkF m 51 #[rv r, rv tx, iv stv, iv env, iv jv, iv iw] [(.int iw), (.int jv)]))
            by_cases q3 : i < j
            · have hj1 : (jv - 1).toInt = ((j - 1 : Nat) : Int) := by
                have u1 := c_isub jv 1
                have u2 := rng32 (jv - 1)
                have u3 : (1 : Int32).toInt = 1 := rfl
                omega
              have hdf : (jv - iw).toInt = ((j - i : Nat) : Int) := by
                have u1 := c_isub jv iw
                have u2 := rng32 (jv - iw)
                omega
              refine Ends.go (fun _ => XS.icmpNo X7.here hx rfl (hb hby d3_51) rfl (tlt ((own_lt hi hj).mpr q3 : iw < jv)).2.2.2) ?_
              show Ends p.tables e below G (T7.setTop (mkF m 54 #[rv r, rv tx, iv stv, iv env, iv jv, iv iw] []))
              refine Ends.go (fun _ => XS.aloadN X7.here hx rfl (hb hby d3_54) rfl rfl) ?_
              show Ends p.tables e below G (T7.setTop (mkF m 55 #[rv r, rv tx, iv stv, iv env, iv jv, iv iw] [(.ref r)]))
              refine Ends.go (fun _ => XS.dup X7.here hx rfl (hb hby d3_55) rfl rfl) ?_
              show Ends p.tables e below G (T7.setTop (mkF m 56 #[rv r, rv tx, iv stv, iv env, iv jv, iv iw] [(.ref r), (.ref r)]))
              obtain ⟨T6, X6, e6, st6⟩ := getF X7 hx hZ hown (host := "") (Or.inl (hw _ (List.mem_of_getElem? (i := 21) rfl))) Via.refl e7 F_cb (g := (mkF m 56 #[rv r, rv tx, iv stv, iv env, iv jv, iv iw] [(.ref r), (.ref r)])) rfl rfl (hb hby d3_56)
              refine Ends.go (fun _ => st6 _) ?_
              show Ends p.tables e below G (T6.setTop (mkF m 59 #[rv r, rv tx, iv stv, iv env, iv jv, iv iw] [(.int cvb), (.ref r)]))
              refine Ends.go (fun _ => XS.iload X6.here hx rfl (hb hby d3_59) rfl) ?_
              show Ends p.tables e below G (T6.setTop (mkF m 61 #[rv r, rv tx, iv stv, iv env, iv jv, iv iw] [(.int jv), (.int cvb), (.ref r)]))
              refine Ends.go (fun _ => XS.iload X6.here hx rfl (hb hby d3_61) rfl) ?_
              show Ends p.tables e below G (T6.setTop (mkF m 63 #[rv r, rv tx, iv stv, iv env, iv jv, iv iw] [(.int iw), (.int jv), (.int cvb), (.ref r)]))
              refine Ends.go (fun _ => XS.isub X6.here hx rfl (hb hby d3_63) rfl) ?_
              show Ends p.tables e below G (T6.setTop (mkF m 64 #[rv r, rv tx, iv stv, iv env, iv jv, iv iw] [(.int (jv - iw)), (.int cvb), (.ref r)]))
              refine Ends.go (fun _ => XS.iadd X6.here hx rfl (hb hby d3_64) rfl) ?_
              show Ends p.tables e below G (T6.setTop (mkF m 65 #[rv r, rv tx, iv stv, iv env, iv jv, iv iw] [(.int (cvb + (jv - iw))), (.ref r)]))
              obtain ⟨T7, h7, X7, e7, W7, st7⟩ := putF X6 hx hZ hown (host := "") (Or.inl (hw _ (List.mem_of_getElem? (i := 21) rfl))) Via.refl e6 F_cb E_rb (Or.inl (hw _ (List.mem_of_getElem? (i := 22) rfl))) (hw _ (List.mem_of_getElem? (i := 3) rfl)) (ty := .int) (by decide) rfl rfl (g := (mkF m 65 #[rv r, rv tx, iv stv, iv env, iv jv, iv iw] [(.int (cvb + (jv - iw))), (.ref r)])) rfl rfl (hb hby d3_65)
              have f7_E_r := E_rb.wr W7
              have f7_F_r_characters := F_cb.same W7
              have f7_F_r_padding := F_pb.other W7 (Or.inr (slot_ne (Or.inl (hw _ (List.mem_of_getElem? (i := 24) rfl))) (Or.inl (hw _ (List.mem_of_getElem? (i := 22) rfl))) (by decide) (t := .int) (t' := .int) (by decide) (by decide)))
              have f7_F_r_last := F_lb.other W7 (Or.inr (slot_ne (Or.inl (hw _ (List.mem_of_getElem? (i := 39) rfl))) (Or.inl (hw _ (List.mem_of_getElem? (i := 22) rfl))) (by decide) (t := .int) (t' := .int) (by decide) (by decide)))
              have f7_V_tx := AF.other V_tb W7 ne_tb
              have f7_V_va := AF.other V_vb W7 ne_vb
              have f7_T_com_example_belge_belge_SimpleTypes_Base64Check_VALUES := S_vb.wr W7
              have sz7 := Nat.le_trans sz9 (Nat.le_of_eq W7.size.symm)
              have N7 := Fr.snoc X7 N9 g_r
              refine Ends.go (fun _ => st7 _) ?_
              show Ends p.tables e below G (T7.setTop (mkF m 68 #[rv r, rv tx, iv stv, iv env, iv jv, iv iw] []))
              refine Ends.go (fun _ => XS.aloadN X7.here hx rfl (hb hby d3_68) rfl rfl) ?_
              show Ends p.tables e below G (T7.setTop (mkF m 69 #[rv r, rv tx, iv stv, iv env, iv jv, iv iw] [(.ref r)]))
              obtain ⟨T8, X8, e8, st8⟩ := getS2 X7 hx hZ hown (host := "") (Or.inl (hw _ (List.mem_of_getElem? (i := 36) rfl))) Via.refl e7 f7_T_com_example_belge_belge_SimpleTypes_Base64Check_VALUES (g := (mkF m 69 #[rv r, rv tx, iv stv, iv env, iv jv, iv iw] [(.ref r)])) rfl (hb hby d3_69)
              refine Ends.go (fun _ => st8 _) ?_
              show Ends p.tables e below G (T8.setTop (mkF m 72 #[rv r, rv tx, iv stv, iv env, iv jv, iv iw] [(.ref va), (.ref r)]))
              refine Ends.go (fun _ => XS.aloadN X8.here hx rfl (hb hby d3_72) rfl rfl) ?_
              show Ends p.tables e below G (T8.setTop (mkF m 73 #[rv r, rv tx, iv stv, iv env, iv jv, iv iw] [(.ref tx), (.ref va), (.ref r)]))
              refine Ends.go (fun _ => XS.iload X8.here hx rfl (hb hby d3_73) rfl) ?_
              show Ends p.tables e below G (T8.setTop (mkF m 75 #[rv r, rv tx, iv stv, iv env, iv jv, iv iw] [(.int jv), (.ref tx), (.ref va), (.ref r)]))
              refine Ends.go (fun _ => XS.iconst X8.here hx rfl (hb hby d3_75)) ?_
              show Ends p.tables e below G (T8.setTop (mkF m 76 #[rv r, rv tx, iv stv, iv env, iv jv, iv iw] [(.int (1 : Int32)), (.int jv), (.ref tx), (.ref va), (.ref r)]))
              refine Ends.go (fun _ => XS.isub X8.here hx rfl (hb hby d3_76) rfl) ?_
              show Ends p.tables e below G (T8.setTop (mkF m 77 #[rv r, rv tx, iv stv, iv env, iv jv, iv iw] [(.int (jv - (1 : Int32))), (.ref tx), (.ref va), (.ref r)]))
              refine Ends.go (fun _ => AF.ldB f7_V_tx X8 hx hZ e8 (j := (jv - (1 : Int32))) (i := (j - 1)) hj1 (by omega) (v := (.int (F (j - 1)))) rfl (g := (mkF m 77 #[rv r, rv tx, iv stv, iv env, iv jv, iv iw] [(.int (jv - (1 : Int32))), (.ref tx), (.ref va), (.ref r)])) rfl rfl (hb hby d3_77) _) ?_
              show Ends p.tables e below G (T8.setTop (mkF m 78 #[rv r, rv tx, iv stv, iv env, iv jv, iv iw] [(.int (F (j - 1))), (.ref va), (.ref r)]))
              refine Ends.go (fun _ => XS.sipush X8.here hx rfl (hb hby d3_78)) ?_
              show Ends p.tables e below G (T8.setTop (mkF m 81 #[rv r, rv tx, iv stv, iv env, iv jv, iv iw] [(.int (255 : Int32)), (.int (F (j - 1))), (.ref va), (.ref r)]))
              refine Ends.go (fun _ => XS.iand X8.here hx rfl (hb hby d3_81) rfl) ?_
              show Ends p.tables e below G (T8.setTop (mkF m 82 #[rv r, rv tx, iv stv, iv env, iv jv, iv iw] [(.int ((F (j - 1)) &&& (255 : Int32))), (.ref va), (.ref r)]))
              refine Ends.go (fun _ => AF.ldB f7_V_va X8 hx hZ e8 (j := ((F (j - 1)) &&& (255 : Int32))) (i := (own_ix (F (j - 1)))) (own_ixI _) (own_ixL _) (v := (.int (VT (own_ix (F (j - 1)))))) rfl (g := (mkF m 82 #[rv r, rv tx, iv stv, iv env, iv jv, iv iw] [(.int ((F (j - 1)) &&& (255 : Int32))), (.ref va), (.ref r)])) rfl rfl (hb hby d3_82) _) ?_
              show Ends p.tables e below G (T8.setTop (mkF m 83 #[rv r, rv tx, iv stv, iv env, iv jv, iv iw] [(.int (VT (own_ix (F (j - 1))))), (.ref r)]))
              obtain ⟨T9, h9, X9, e9, W9, st9⟩ := putF X8 hx hZ hown (host := "") (Or.inl (hw _ (List.mem_of_getElem? (i := 38) rfl))) Via.refl e8 f7_F_r_last f7_E_r (Or.inl (hw _ (List.mem_of_getElem? (i := 39) rfl))) (hw _ (List.mem_of_getElem? (i := 3) rfl)) (ty := .int) (by decide) rfl rfl (g := (mkF m 83 #[rv r, rv tx, iv stv, iv env, iv jv, iv iw] [(.int (VT (own_ix (F (j - 1))))), (.ref r)])) rfl rfl (hb hby d3_83)
              have f9_E_r := f7_E_r.wr W9
              have f9_F_r_characters := f7_F_r_characters.other W9 (Or.inr (slot_ne (Or.inl (hw _ (List.mem_of_getElem? (i := 22) rfl))) (Or.inl (hw _ (List.mem_of_getElem? (i := 39) rfl))) (by decide) (t := .int) (t' := .int) (by decide) (by decide)))
              have f9_F_r_padding := f7_F_r_padding.other W9 (Or.inr (slot_ne (Or.inl (hw _ (List.mem_of_getElem? (i := 24) rfl))) (Or.inl (hw _ (List.mem_of_getElem? (i := 39) rfl))) (by decide) (t := .int) (t' := .int) (by decide) (by decide)))
              have f9_F_r_last := f7_F_r_last.same W9
              have f9_V_tx := AF.other f7_V_tx W9 ne_tb
              have f9_V_va := AF.other f7_V_va W9 ne_vb
              have f9_T_com_example_belge_belge_SimpleTypes_Base64Check_VALUES := f7_T_com_example_belge_belge_SimpleTypes_Base64Check_VALUES.wr W9
              have sz9 := Nat.le_trans sz7 (Nat.le_of_eq W9.size.symm)
              have N9 := Fr.snoc X9 N7 g_r
              refine Ends.go (fun _ => st9 _) ?_
              show Ends p.tables e below G (T9.setTop (mkF m 86 #[rv r, rv tx, iv stv, iv env, iv jv, iv iw] []))
              rw [if_pos q3] at hT7
              exact at86 _ _ _ j k' _ _ (ch + (j - i)) (VT (own_ix (F (j - 1)))) X9 e9 N9 sz9 ⟨f9_E_r, ⟨_, f9_F_r_characters, (own_add hcvb hdf (by show ch + (j - i) < 2147483648; omega))⟩, ⟨_, f9_F_r_padding, hpvb⟩, f9_F_r_last, f9_V_tx, f9_V_va, f9_T_com_example_belge_belge_SimpleTypes_Base64Check_VALUES⟩ hj hjk (by omega) hT7 hneg (by omega)
            · refine Ends.go (fun _ => XS.icmpYes X7.here hx rfl (pc0 := 51) (pc' := 86) rfl (hb hby d3_51) rfl (flt (fun z => q3 ((own_lt hi hj).mp z) : ¬ (iw < jv))).2.2.2 (by decide) (by decide)) ?_
              show Ends p.tables e below G (T7.setTop (mkF m 86 #[rv r, rv tx, iv stv, iv env, iv jv, iv iw] []))
              obtain rfl : j = i := by omega
              rw [if_neg q3, Nat.sub_self] at hT7
              exact at86 _ _ _ j k' _ _ ch la X7 e7 N9 sz9 hR' hj hjk (by omega) hT7 hneg (by omega)
          have inn : ∀ (k' : Nat) (T7 : State) (j : Nat) (jv : Int32), Stand p l e ({ frames := 1, cells := 0, slots := 0, locals := 12 } : Room) s m #[(.ref r), (.ref tx), (.int stv), (.int env)] below meth c T7 L9 0 0 → T7.heap = h9 → jv.toInt = (j : Int) → i ≤ j → j + k' = en → own_tk VT F (ch + (j - i), 0, if i < j then VT (own_ix (F (j - 1))) else la) j k' = some fin → Ends p.tables e below G (T7.setTop (mkF m 20 #[rv r, rv tx, iv stv, iv env, iv jv, iv iw] [])) := by
            intro k'
            induction k' with
            | zero =>
              intro T7 j jv X7 e7 hj hij hjk hT7
              refine Ends.go (fun _ => XS.iload X7.here hx rfl (hb hby d3_20) rfl) ?_
              show Ends p.tables e below G (T7.setTop (mkF m 22 #[rv r, rv tx, iv stv, iv env, iv jv, iv iw] [(.int jv)]))
              refine Ends.go (fun _ => XS.iloadN X7.here hx rfl (hb hby d3_22) rfl) ?_
              show Ends p.tables e below G (T7.setTop (mkF m 23 #[rv r, rv tx, iv stv, iv env, iv jv, iv iw] [(.int env), (.int jv)]))
              refine Ends.go (fun _ => XS.icmpYes X7.here hx rfl (pc0 := 23) (pc' := 47) rfl (hb hby d3_23) rfl (flt (fun z => absurd ((own_lt hj hen).mp z) (by omega) : ¬ (jv < env))).2.1 (by decide) (by decide)) ?_
              show Ends p.tables e below G (T7.setTop (mkF m 47 #[rv r, rv tx, iv stv, iv env, iv jv, iv iw] []))
              exact at47 _ j 0 _ X7 e7 hj hij hjk hT7 (Or.inl rfl)
            | succ k' ih2 =>
              intro T7 j jv X7 e7 hj hij hjk hT7
              refine Ends.go (fun _ => XS.iload X7.here hx rfl (hb hby d3_20) rfl) ?_
              show Ends p.tables e below G (T7.setTop (mkF m 22 #[rv r, rv tx, iv stv, iv env, iv jv, iv iw] [(.int jv)]))
              refine Ends.go (fun _ => XS.iloadN X7.here hx rfl (hb hby d3_22) rfl) ?_
              show Ends p.tables e below G (T7.setTop (mkF m 23 #[rv r, rv tx, iv stv, iv env, iv jv, iv iw] [(.int env), (.int jv)]))
              refine Ends.go (fun _ => XS.icmpNo X7.here hx rfl (hb hby d3_23) rfl (tlt ((own_lt hj hen).mpr (by omega) : jv < env)).2.1) ?_
              show Ends p.tables e below G (T7.setTop (mkF m 26 #[rv r, rv tx, iv stv, iv env, iv jv, iv iw] []))
              obtain ⟨T10, X10, e10, st10⟩ := getS2 X7 hx hZ hown (host := "") (Or.inl (hw _ (List.mem_of_getElem? (i := 36) rfl))) Via.refl e7 S_vb (g := (mkF m 26 #[rv r, rv tx, iv stv, iv env, iv jv, iv iw] [])) rfl (hb hby d3_26)
              refine Ends.go (fun _ => st10 _) ?_
              show Ends p.tables e below G (T10.setTop (mkF m 29 #[rv r, rv tx, iv stv, iv env, iv jv, iv iw] [(.ref va)]))
              refine Ends.go (fun _ => XS.aloadN X10.here hx rfl (hb hby d3_29) rfl rfl) ?_
              show Ends p.tables e below G (T10.setTop (mkF m 30 #[rv r, rv tx, iv stv, iv env, iv jv, iv iw] [(.ref tx), (.ref va)]))
              refine Ends.go (fun _ => XS.iload X10.here hx rfl (hb hby d3_30) rfl) ?_
              show Ends p.tables e below G (T10.setTop (mkF m 32 #[rv r, rv tx, iv stv, iv env, iv jv, iv iw] [(.int jv), (.ref tx), (.ref va)]))
              refine Ends.go (fun _ => AF.ldB V_tb X10 hx hZ e10 (j := jv) (i := j) hj (by omega) (v := (.int (F j))) rfl (g := (mkF m 32 #[rv r, rv tx, iv stv, iv env, iv jv, iv iw] [(.int jv), (.ref tx), (.ref va)])) rfl rfl (hb hby d3_32) _) ?_
              show Ends p.tables e below G (T10.setTop (mkF m 33 #[rv r, rv tx, iv stv, iv env, iv jv, iv iw] [(.int (F j)), (.ref va)]))
              refine Ends.go (fun _ => XS.sipush X10.here hx rfl (hb hby d3_33)) ?_
              show Ends p.tables e below G (T10.setTop (mkF m 36 #[rv r, rv tx, iv stv, iv env, iv jv, iv iw] [(.int (255 : Int32)), (.int (F j)), (.ref va)]))
              refine Ends.go (fun _ => XS.iand X10.here hx rfl (hb hby d3_36) rfl) ?_
              show Ends p.tables e below G (T10.setTop (mkF m 37 #[rv r, rv tx, iv stv, iv env, iv jv, iv iw] [(.int ((F j) &&& (255 : Int32))), (.ref va)]))
              refine Ends.go (fun _ => AF.ldB V_vb X10 hx hZ e10 (j := ((F j) &&& (255 : Int32))) (i := (own_ix (F j))) (own_ixI _) (own_ixL _) (v := (.int (VT (own_ix (F j))))) rfl (g := (mkF m 37 #[rv r, rv tx, iv stv, iv env, iv jv, iv iw] [(.int ((F j) &&& (255 : Int32))), (.ref va)])) rfl rfl (hb hby d3_37) _) ?_
              show Ends p.tables e below G (T10.setTop (mkF m 38 #[rv r, rv tx, iv stv, iv env, iv jv, iv iw] [(.int (VT (own_ix (F j))))]))
              by_cases q4 : VT (own_ix (F j)) < 0
              · refine Ends.go (fun _ => XS.ifYes X10.here hx rfl (pc0 := 38) (pc' := 47) rfl (hb hby d3_38) rfl ((if0 _ _).trans (tlt (q4 : (VT (own_ix (F j))) < (0 : Int32))).1) (by decide) (by decide)) ?_
                show Ends p.tables e below G (T10.setTop (mkF m 47 #[rv r, rv tx, iv stv, iv env, iv jv, iv iw] []))
                exact at47 _ j (k' + 1) _ X10 e10 hj hij hjk hT7 (Or.inr q4)
              · refine Ends.go (fun _ => XS.ifNo X10.here hx rfl (hb hby d3_38) rfl ((if0 _ _).trans (flt (q4 : ¬ ((VT (own_ix (F j))) < (0 : Int32)))).1)) ?_
                show Ends p.tables e below G (T10.setTop (mkF m 41 #[rv r, rv tx, iv stv, iv env, iv jv, iv iw] []))
                refine Ends.go (fun _ => XS.iinc X10.here hx rfl (hb hby d3_41) rfl (l' := #[rv r, rv tx, iv stv, iv env, iv (jv + (1 : Int32)), iv iw]) rfl) ?_
                show Ends p.tables e below G (T10.setTop (mkF m 44 #[rv r, rv tx, iv stv, iv env, iv (jv + (1 : Int32)), iv iw] []))
                refine Ends.go (fun _ => XS.goto X10.here hx rfl (pc0 := 44) (pc' := 20) rfl (hb hby d3_44) (by decide) (by decide)) ?_
                show Ends p.tables e below G (T10.setTop (mkF m 20 #[rv r, rv tx, iv stv, iv env, iv (jv + (1 : Int32)), iv iw] []))
                obtain ⟨a', hs, hT8⟩ := own_tk_cons hT7
                rw [own_stp_run q4] at hs
                cases hs
                exact ih2 _ (j + 1) _ X10 e10 (own_add hj (b := 1) (y := 1) rfl (by omega)) (by omega) (by omega) (by rw [if_pos (by omega), show j + 1 - 1 = j by omega, show ch + (j + 1 - i) = ch + (j - i) + 1 by omega]; exact hT8)
          exact inn k _ i _ X5 e5 hi (Nat.le_refl _) hik (by rw [if_neg (Nat.lt_irrefl _), Nat.sub_self]; exact hT)
        · refine Ends.go (fun _ => XS.ifYes X5.here hx rfl (pc0 := 13) (pc' := 94) rfl (hb hby d3_13) rfl ((if0 _ _).trans (feq (fun z => q2 (by have z' := congrArg Int32.toInt z; rw [hpvb] at z'; have o0 : (0 : Int32).toInt = 0 := rfl; have z2 : ((pd : Nat) : Int) = (0 : Int32).toInt := z'; omega) : ¬ (pvb = (0 : Int32)))).2) (by decide) (by decide)) ?_
          show Ends p.tables e below G (T5.setTop (mkF m 94 #[rv r, rv tx, iv stv, iv env, iv iw, s5] []))
          obtain ⟨k2, rfl⟩ : ∃ k2, k = k2 + 1 := ⟨k - 1, by omega⟩
          exact at94 _ _ _ i k2 _ _ ch pd la X5 e5 N9 sz9 hR' hi hik (by omega) h5 hT (fun z => absurd z q2) (by omega) hp2
  exact outer (en - st) _ _ _ st _ _ ag X0 e0 N0 Z0 hR hst (by omega) One.u hT (by omega) hp2
theorem own_f0 {n : Nat} {la : Int32} : own_full (n, 0, la) ↔ n % 4 = 0 := by
  simp [own_full]
theorem own_f1 {n : Nat} {la : Int32} : own_full (n, 1, la) ↔ n % 4 = 3 ∧ la &&& 3 = 0 := by
  show ((n + 1) % 4 = 0 ∧ ((1 : Nat) = 0 ∨ ((1 : Nat) = 2 ∧ la &&& 15 = 0) ∨ ((1 : Nat) = 1 ∧ la &&& 3 = 0))) ↔ _
  constructor
  · rintro ⟨a, b | b | b⟩
    · exact absurd b (by decide)
    · exact absurd b.1 (by decide)
    · exact ⟨by omega, b.2⟩
  · rintro ⟨a, b⟩
    exact ⟨by omega, Or.inr (Or.inr ⟨rfl, b⟩)⟩
theorem own_f2 {n : Nat} {la : Int32} : own_full (n, 2, la) ↔ n % 4 = 2 ∧ la &&& 15 = 0 := by
  show ((n + 2) % 4 = 0 ∧ ((2 : Nat) = 0 ∨ ((2 : Nat) = 2 ∧ la &&& 15 = 0) ∨ ((2 : Nat) = 1 ∧ la &&& 3 = 0))) ↔ _
  constructor
  · rintro ⟨a, b | b | b⟩
    · exact absurd b (by decide)
    · exact ⟨by omega, b.2⟩
    · exact absurd b.1 (by decide)
  · rintro ⟨a, b⟩
    exact ⟨by omega, Or.inr (Or.inl ⟨rfl, b⟩)⟩
theorem own_m4 {x : Int32} {n : Nat} (hx : x.toInt = (n : Int)) : x &&& 3 = 0 ↔ n % 4 = 0 := by
  rw [← Int32.toInt_inj, c_mask x 3 2 (by decide) (by decide), hx]
  have e : ((2 ^ 2 : Nat) : Int) = 4 := rfl
  have o : (0 : Int32).toInt = 0 := rfl
  omega
theorem own_m16 {x : Int32} {n : Nat} (hx : x.toInt = (n : Int)) : x &&& 15 = 0 ↔ n % 16 = 0 := by
  rw [← Int32.toInt_inj, c_mask x 15 4 (by decide) (by decide), hx]
  have e : ((2 ^ 4 : Nat) : Int) = 16 := rfl
  have o : (0 : Int32).toInt = 0 := rfl
  omega
theorem own_tk_bd (VT F : Nat → Int32) : ∀ (k : Nat) (a a' : Nat × Nat × Int32) (i : Nat), own_tk VT F a i k = some a' → a'.1 ≤ a.1 + k ∧ (a.2.1 ≤ 2 → a'.2.1 ≤ 2)
  | 0, a, a', i, h => by
    have h' : some a = some a' := h
    cases h'
    exact ⟨Nat.le_refl _, fun z => z⟩
  | k + 1, a, a', i, h => by
    obtain ⟨b, hb, hk⟩ := own_tk_cons h
    have q := own_tk_bd VT F k b a' (i + 1) hk
    have r : b.1 ≤ a.1 + 1 ∧ (a.2.1 ≤ 2 → b.2.1 ≤ 2) := by
      simp only [own_stp] at hb
      split at hb
      · cases hb; exact ⟨Nat.le_refl _, fun _ => Nat.zero_le _⟩
      · split at hb
        · rename_i u
          cases hb; exact ⟨Nat.le_succ _, fun _ => u.2⟩
        · split at hb
          · cases hb; exact ⟨Nat.le_succ _, fun z => z⟩
          · cases hb
    exact ⟨by omega, fun z => q.2 (r.2 z)⟩
theorem own_rem {x y : Int32} {n b : Nat} (hx : x.toInt = (n : Int)) (hy : y.toInt = (b : Int)) : (x - (x / y) * y).toInt = ((n % b : Nat) : Int) := by
  rw [own_iremV (by omega) hy, hx]; rfl
theorem pd_3 : parseMethodDescriptor "(IIIJ)B" = some ⟨[.int, .int, .int, .long], some .byte⟩ := by decide +kernel
theorem pd_4 : parseMethodDescriptor "([BII)Z" = some ⟨[(.array .byte), .int, .int], some .boolean⟩ := by decide +kernel
theorem pd_5 : parseMethodDescriptor "()Z" = some ⟨[], some .boolean⟩ := by decide +kernel
theorem pn_0 : plainName "com/example/belge/belge/Base64CheckIsCompletePinLaw" = true := by first | (simp [plainName, overriddenIn]; done) | decide +kernel
theorem ef_0 (m : MethodId) (x0 : Int32) (x1 : Int32) (x2 : Int32) (x3 : Int64) (x4 : Int32) (x5 : Int32) : entryFrame m #[(.int x0), (.int x1), (.int x2), (.long x3), (.int x4), (.int x5)] maxLocals = mkF m 0 #[iv x0, iv x1, iv x2, .val (.long x3), .second, iv x4, iv x5, un, un, un, un, un, un, un, un, un, un, un] [] := by first | (simp [entryFrame, mkF, argsToLocals, Value.category, maxLocals]; done) | rfl
def Q0 (Z : State) (vA : Int32) (vB : Int32) (vC : Int32) (vD : Int64) (vW : Int32) (vE : Int32) (va : Addr) (VT : Nat → Int32) (h0 : Heap) (n0 : Nat) (v : Option Value) (h : Heap) (L : List Loc) : Prop := v = some (.int 1) ∧ Fr n0 L
set_option maxRecDepth 65536 in
set_option maxHeartbeats 40000000 in
theorem rm0 (l : Launch) (Z : State) (a0 : Array Value) (hw : ∀ d ∈ tables_1, d.before a0 Z = true) (ws : List Jvm.Cond) (vA : Int32) (vB : Int32) (vC : Int32) (vD : Int64) (vW : Int32) (vE : Int32) (va : Addr) (VT : Nat → Int32) (h0 : Heap) (n0 : Nat) (Z0 : n0 ≤ h0.size) (V_v : AF Z h0 va .byte 256 (fun k => .int (VT k))) (S_v : Sta Z h0 "com/example/belge/belge/SimpleTypes$Base64Check" "VALUES" "[B" (.ref va)) (hV : VTok VT) :
    MetFree l x (head1 (Jvm.Cond.code x code maxLocals ret :: ws) room_1) (fun a U => a = #[(.int vA), (.int vB), (.int vC), (.long vD), (.int vW), (.int vE)] ∧ Z.Warmed39 U.vm ∧ U.heap = h0) (fun _ _ _ _ _ => True) (fun _ U o U' => ∃ v L, o = .returned v ∧ Q0 Z vA vB vC vD vW vE va VT h0 n0 v U'.heap L ∧ FrameEnd U o U' L room_1.cells room_1.slots) := by
  refine MetFree.of_bodySF (plainFor_of_name pn_0) hisR ?_
  intro p e s m args below meth c s₁ Bd hml0 hP hK
  obtain ⟨rfl, hZ, hh⟩ := hP
  have hx := Bd.exec
  have hby := Bd.bytes
  have hml : c.maxLocals = 18 := hml0
  have hown : s.vm.findClass "com/example/belge/belge/Base64CheckIsCompletePinLaw" = some m.cls := findClass_of_methodNamed Bd.named
  have hnm := (name_of_methodNamed Bd.named Bd.method).1
  have X0 : Stand p l e room_1 s m #[(.int vA), (.int vB), (.int vC), (.long vD), (.int vW), (.int vE)] below meth c s₁ [] 0 0 := Stand.of_body Bd
  have e0 : s₁.heap = h0 := by rw [← hh, Bd.state]; rfl
  have N0 := Fr.nil n0
  show Ends p.tables e below (fun (s₂ : State) (o : Outcome) => ∃ v L, o = .returned v ∧ (Q0 Z vA vB vC vD vW vE va VT h0 n0) v s₂.heap L ∧ FrameEnd s o s₂ L room_1.cells room_1.slots) (s₁.setTop (entryFrame m #[(.int vA), (.int vB), (.int vC), (.long vD), (.int vW), (.int vE)] maxLocals))
  refine Ends.any fun G hG => ?_
  refine Ends.go (fun t k => castTop (ef_0 m vA vB vC vD vW vE) k) ?_
  show Ends p.tables e below G (s₁.setTop (mkF m 0 #[iv vA, iv vB, iv vC, .val (.long vD), .second, iv vW, iv vE, un, un, un, un, un, un, un, un, un, un, un] []))
  refine Ends.go (fun _ => XS.iloadN X0.here hx rfl (hb hby at_0) rfl) ?_
  show Ends p.tables e below G (s₁.setTop (mkF m 1 #[iv vA, iv vB, iv vC, .val (.long vD), .second, iv vW, iv vE, un, un, un, un, un, un, un, un, un, un, un] [(.int vA)]))
  refine Ends.go (fun _ => XS.bipush X0.here hx rfl (hb hby at_1)) ?_
  show Ends p.tables e below G (s₁.setTop (mkF m 3 #[iv vA, iv vB, iv vC, .val (.long vD), .second, iv vW, iv vE, un, un, un, un, un, un, un, un, un, un, un] [(.int (7 : Int32)), (.int vA)]))
  refine Ends.go (fun _ => XS.iand X0.here hx rfl (hb hby at_3) rfl) ?_
  show Ends p.tables e below G (s₁.setTop (mkF m 4 #[iv vA, iv vB, iv vC, .val (.long vD), .second, iv vW, iv vE, un, un, un, un, un, un, un, un, un, un, un] [(.int (vA &&& (7 : Int32)))]))
  refine Ends.go (fun _ => XS.istore X0.here hx rfl (hb hby at_4) rfl (l' := #[iv vA, iv vB, iv vC, .val (.long vD), .second, iv vW, iv vE, iv (vA &&& (7 : Int32)), un, un, un, un, un, un, un, un, un, un]) rfl) ?_
  show Ends p.tables e below G (s₁.setTop (mkF m 6 #[iv vA, iv vB, iv vC, .val (.long vD), .second, iv vW, iv vE, iv (vA &&& (7 : Int32)), un, un, un, un, un, un, un, un, un, un] []))
  obtain ⟨n, hn7, hn⟩ : ∃ n : Nat, n ≤ 7 ∧ (vA &&& (7 : Int32)).toInt = (n : Int) := by
    have h := c_mask vA 7 3 (by decide) (by decide)
    have h1 := Int.emod_nonneg vA.toInt (b := ((2 ^ 3 : Nat) : Int)) (by decide)
    have h2 := Int.emod_lt_of_pos vA.toInt (b := ((2 ^ 3 : Nat) : Int)) (by decide)
    have e3 : ((2 ^ 3 : Nat) : Int) = 8 := rfl
    exact ⟨(vA.toInt % ((2 ^ 3 : Nat) : Int)).toNat, by omega, by omega⟩
  generalize (vA &&& (7 : Int32)) = nv at hn ⊢
  show Ends p.tables e below G (s₁.setTop (mkF m 6 #[iv vA, iv vB, iv vC, .val (.long vD), .second, iv vW, iv vE, iv nv, un, un, un, un, un, un, un, un, un, un] []))
  refine Ends.go (fun _ => XS.iloadN X0.here hx rfl (hb hby at_6) rfl) ?_
  show Ends p.tables e below G (s₁.setTop (mkF m 7 #[iv vA, iv vB, iv vC, .val (.long vD), .second, iv vW, iv vE, iv nv, un, un, un, un, un, un, un, un, un, un] [(.int vB)]))
  refine Ends.go (fun _ => X0.ldcInt hx hown (mvT hZ (hw _ (List.mem_of_getElem? (i := 0) rfl))) (g := (mkF m 7 #[iv vA, iv vB, iv vC, .val (.long vD), .second, iv vW, iv vE, iv nv, un, un, un, un, un, un, un, un, un, un] [(.int vB)])) rfl (hb hby at_7) _) ?_
  show Ends p.tables e below G (s₁.setTop (mkF m 9 #[iv vA, iv vB, iv vC, .val (.long vD), .second, iv vW, iv vE, iv nv, un, un, un, un, un, un, un, un, un, un] [(.int (2147483647 : Int32)), (.int vB)]))
  refine Ends.go (fun _ => XS.iand X0.here hx rfl (hb hby at_9) rfl) ?_
  show Ends p.tables e below G (s₁.setTop (mkF m 10 #[iv vA, iv vB, iv vC, .val (.long vD), .second, iv vW, iv vE, iv nv, un, un, un, un, un, un, un, un, un, un] [(.int (vB &&& (2147483647 : Int32)))]))
  refine Ends.go (fun _ => XS.iconst X0.here hx rfl (hb hby at_10)) ?_
  show Ends p.tables e below G (s₁.setTop (mkF m 11 #[iv vA, iv vB, iv vC, .val (.long vD), .second, iv vW, iv vE, iv nv, un, un, un, un, un, un, un, un, un, un] [(.int (3 : Int32)), (.int (vB &&& (2147483647 : Int32)))]))
  refine Ends.go (fun _ => XS.irem X0.here hx rfl (hb hby at_11) rfl (by decide)) ?_
  show Ends p.tables e below G (s₁.setTop (mkF m 12 #[iv vA, iv vB, iv vC, .val (.long vD), .second, iv vW, iv vE, iv nv, un, un, un, un, un, un, un, un, un, un] [(.int ((vB &&& (2147483647 : Int32)) - ((vB &&& (2147483647 : Int32)) / (3 : Int32)) * (3 : Int32)))]))
  refine Ends.go (fun _ => XS.istore X0.here hx rfl (hb hby at_12) rfl (l' := #[iv vA, iv vB, iv vC, .val (.long vD), .second, iv vW, iv vE, iv nv, iv ((vB &&& (2147483647 : Int32)) - ((vB &&& (2147483647 : Int32)) / (3 : Int32)) * (3 : Int32)), un, un, un, un, un, un, un, un, un]) rfl) ?_
  show Ends p.tables e below G (s₁.setTop (mkF m 14 #[iv vA, iv vB, iv vC, .val (.long vD), .second, iv vW, iv vE, iv nv, iv ((vB &&& (2147483647 : Int32)) - ((vB &&& (2147483647 : Int32)) / (3 : Int32)) * (3 : Int32)), un, un, un, un, un, un, un, un, un] []))
  obtain ⟨pn, hp3, hp⟩ := own_irem (x := vB &&& 2147483647) (y := 3) (b := 3) (own_mask31 _) rfl (by decide)
  generalize ((vB &&& (2147483647 : Int32)) - ((vB &&& (2147483647 : Int32)) / (3 : Int32)) * (3 : Int32)) = pv at hp ⊢
  show Ends p.tables e below G (s₁.setTop (mkF m 14 #[iv vA, iv vB, iv vC, .val (.long vD), .second, iv vW, iv vE, iv nv, iv pv, un, un, un, un, un, un, un, un, un] []))
  refine Ends.go (fun _ => XS.iloadN X0.here hx rfl (hb hby at_14) rfl) ?_
  show Ends p.tables e below G (s₁.setTop (mkF m 15 #[iv vA, iv vB, iv vC, .val (.long vD), .second, iv vW, iv vE, iv nv, iv pv, un, un, un, un, un, un, un, un, un] [(.int vC)]))
  refine Ends.go (fun _ => XS.bipush X0.here hx rfl (hb hby at_15)) ?_
  show Ends p.tables e below G (s₁.setTop (mkF m 17 #[iv vA, iv vB, iv vC, .val (.long vD), .second, iv vW, iv vE, iv nv, iv pv, un, un, un, un, un, un, un, un, un] [(.int (63 : Int32)), (.int vC)]))
  refine Ends.go (fun _ => XS.iand X0.here hx rfl (hb hby at_17) rfl) ?_
  show Ends p.tables e below G (s₁.setTop (mkF m 18 #[iv vA, iv vB, iv vC, .val (.long vD), .second, iv vW, iv vE, iv nv, iv pv, un, un, un, un, un, un, un, un, un] [(.int (vC &&& (63 : Int32)))]))
  refine Ends.go (fun _ => XS.istore X0.here hx rfl (hb hby at_18) rfl (l' := #[iv vA, iv vB, iv vC, .val (.long vD), .second, iv vW, iv vE, iv nv, iv pv, iv (vC &&& (63 : Int32)), un, un, un, un, un, un, un, un]) rfl) ?_
  show Ends p.tables e below G (s₁.setTop (mkF m 20 #[iv vA, iv vB, iv vC, .val (.long vD), .second, iv vW, iv vE, iv nv, iv pv, iv (vC &&& (63 : Int32)), un, un, un, un, un, un, un, un] []))
  obtain ⟨vn, hv6, hv⟩ : ∃ vn : Nat, vn < 64 ∧ (vC &&& (63 : Int32)).toInt = (vn : Int) := by
    have h := c_mask vC 63 6 (by decide) (by decide)
    have h1 := Int.emod_nonneg vC.toInt (b := ((2 ^ 6 : Nat) : Int)) (by decide)
    have h2 := Int.emod_lt_of_pos vC.toInt (b := ((2 ^ 6 : Nat) : Int)) (by decide)
    have e3 : ((2 ^ 6 : Nat) : Int) = 64 := rfl
    exact ⟨(vC.toInt % ((2 ^ 6 : Nat) : Int)).toNat, by omega, by omega⟩
  generalize (vC &&& (63 : Int32)) = vv at hv ⊢
  show Ends p.tables e below G (s₁.setTop (mkF m 20 #[iv vA, iv vB, iv vC, .val (.long vD), .second, iv vW, iv vE, iv nv, iv pv, iv vv, un, un, un, un, un, un, un, un] []))
  refine Ends.go (fun _ => XS.bipush X0.here hx rfl (hb hby at_20)) ?_
  show Ends p.tables e below G (s₁.setTop (mkF m 22 #[iv vA, iv vB, iv vC, .val (.long vD), .second, iv vW, iv vE, iv nv, iv pv, iv vv, un, un, un, un, un, un, un, un] [(.int (12 : Int32))]))
  obtain ⟨T1, h1, k1, X1, e1, E1, A1, st1⟩ := newP X0 hx hZ (hw _ (List.mem_of_getElem? (i := 1) rfl)) e0 (g := (mkF m 22 #[iv vA, iv vB, iv vC, .val (.long vD), .second, iv vW, iv vE, iv nv, iv pv, iv vv, un, un, un, un, un, un, un, un] [(.int (12 : Int32))])) rfl (hb hby at_22) rfl (by decide) (cap := 12) (by decide) (by decide) (by decide) (by decide)
  obtain ⟨b1, g1⟩ : ∃ z, z = h0.size := ⟨_, rfl⟩
  rw [← g1] at A1 st1
  have g_b1 : n0 ≤ b1 := Nat.le_trans Z0 (Nat.le_of_eq g1.symm)
  have ne_va_b1 : va ≠ b1 := Nat.ne_of_lt (Nat.lt_of_lt_of_le (AF.lt V_v) (Nat.le_of_eq g1.symm))
  have f1_V_va := AF.ext V_v E1
  have f1_T_com_example_belge_belge_SimpleTypes_Base64Check_VALUES := S_v.ext E1
  have sz1 := Nat.le_trans Z0 E1.1
  have V1 : AF Z h1 b1 .byte 12 (fun _ => (.int (0 : Int32))) := AF.new A1 rfl
  refine Ends.go (fun _ => st1 _) ?_
  show Ends p.tables e below G (T1.setTop (mkF m 24 #[iv vA, iv vB, iv vC, .val (.long vD), .second, iv vW, iv vE, iv nv, iv pv, iv vv, un, un, un, un, un, un, un, un] [(.ref b1)]))
  refine Ends.go (fun _ => XS.astore X1.here hx rfl (hb hby at_24) rfl rfl (l' := #[iv vA, iv vB, iv vC, .val (.long vD), .second, iv vW, iv vE, iv nv, iv pv, iv vv, rv b1, un, un, un, un, un, un, un]) rfl) ?_
  show Ends p.tables e below G (T1.setTop (mkF m 26 #[iv vA, iv vB, iv vC, .val (.long vD), .second, iv vW, iv vE, iv nv, iv pv, iv vv, rv b1, un, un, un, un, un, un, un] []))
  have hv61 : VT 61 < 0 := by rw [hV.2.2.2.2.2.2.2.2.2]; decide
  have at266 : ∀ (T9 : State) (L9 : List Loc) (h9 : Heap) (F : Nat → Int32) (len : Nat) (lenv : Int32), Stand p l e room_1 s m #[(.int vA), (.int vB), (.int vC), (.long vD), (.int vW), (.int vE)] below meth c T9 L9 (0 + 1) (0 + 12) → T9.heap = h9 → Fr n0 L9 → n0 ≤ h9.size → AF Z h9 b1 .byte 12 (fun k => .int (F k)) → AF Z h9 va .byte 256 (fun k => .int (VT k)) → Sta Z h9 "com/example/belge/belge/SimpleTypes$Base64Check" "VALUES" "[B" (.ref va) → own_tk VT F (0, 0, 0) 0 len = some (n, pn, (if n = 0 then (0 : Int32) else vv)) → lenv.toInt = (len : Int) → len ≤ 12 → Ends p.tables e below G (T9.setTop (mkF m 266 #[iv vA, iv vB, iv vC, .val (.long vD), .second, iv vW, iv vE, iv nv, iv pv, iv vv, rv b1, iv lenv, un, un, un, un, un, un] [])) := by
    intro T9 L9 h9 F len lenv X9 e9 N9 sz9 V9 U9 S9 hT hlen hl12
    have hlen1 := own_add hlen (b := 1) (y := 1) rfl (by omega)
    refine Ends.go (fun _ => XS.iload X9.here hx rfl (hb hby at_266) rfl) ?_
    show Ends p.tables e below G (T9.setTop (mkF m 268 #[iv vA, iv vB, iv vC, .val (.long vD), .second, iv vW, iv vE, iv nv, iv pv, iv vv, rv b1, iv lenv, un, un, un, un, un, un] [(.int vE)]))
    refine Ends.go (fun _ => X9.ldcInt hx hown (mvT hZ (hw _ (List.mem_of_getElem? (i := 0) rfl))) (g := (mkF m 268 #[iv vA, iv vB, iv vC, .val (.long vD), .second, iv vW, iv vE, iv nv, iv pv, iv vv, rv b1, iv lenv, un, un, un, un, un, un] [(.int vE)])) rfl (hb hby at_268) _) ?_
    show Ends p.tables e below G (T9.setTop (mkF m 270 #[iv vA, iv vB, iv vC, .val (.long vD), .second, iv vW, iv vE, iv nv, iv pv, iv vv, rv b1, iv lenv, un, un, un, un, un, un] [(.int (2147483647 : Int32)), (.int vE)]))
    refine Ends.go (fun _ => XS.iand X9.here hx rfl (hb hby at_270) rfl) ?_
    show Ends p.tables e below G (T9.setTop (mkF m 271 #[iv vA, iv vB, iv vC, .val (.long vD), .second, iv vW, iv vE, iv nv, iv pv, iv vv, rv b1, iv lenv, un, un, un, un, un, un] [(.int (vE &&& (2147483647 : Int32)))]))
    refine Ends.go (fun _ => XS.iload X9.here hx rfl (hb hby at_271) rfl) ?_
    show Ends p.tables e below G (T9.setTop (mkF m 273 #[iv vA, iv vB, iv vC, .val (.long vD), .second, iv vW, iv vE, iv nv, iv pv, iv vv, rv b1, iv lenv, un, un, un, un, un, un] [(.int lenv), (.int (vE &&& (2147483647 : Int32)))]))
    refine Ends.go (fun _ => XS.iconst X9.here hx rfl (hb hby at_273)) ?_
    show Ends p.tables e below G (T9.setTop (mkF m 274 #[iv vA, iv vB, iv vC, .val (.long vD), .second, iv vW, iv vE, iv nv, iv pv, iv vv, rv b1, iv lenv, un, un, un, un, un, un] [(.int (1 : Int32)), (.int lenv), (.int (vE &&& (2147483647 : Int32)))]))
    refine Ends.go (fun _ => XS.iadd X9.here hx rfl (hb hby at_274) rfl) ?_
    show Ends p.tables e below G (T9.setTop (mkF m 275 #[iv vA, iv vB, iv vC, .val (.long vD), .second, iv vW, iv vE, iv nv, iv pv, iv vv, rv b1, iv lenv, un, un, un, un, un, un] [(.int (lenv + (1 : Int32))), (.int (vE &&& (2147483647 : Int32)))]))
    refine Ends.go (fun _ => XS.irem X9.here hx rfl (hb hby at_275) rfl (own_ne0 hlen1 (by omega))) ?_
    show Ends p.tables e below G (T9.setTop (mkF m 276 #[iv vA, iv vB, iv vC, .val (.long vD), .second, iv vW, iv vE, iv nv, iv pv, iv vv, rv b1, iv lenv, un, un, un, un, un, un] [(.int ((vE &&& (2147483647 : Int32)) - ((vE &&& (2147483647 : Int32)) / (lenv + (1 : Int32))) * (lenv + (1 : Int32))))]))
    refine Ends.go (fun _ => XS.istore X9.here hx rfl (hb hby at_276) rfl (l' := #[iv vA, iv vB, iv vC, .val (.long vD), .second, iv vW, iv vE, iv nv, iv pv, iv vv, rv b1, iv lenv, iv ((vE &&& (2147483647 : Int32)) - ((vE &&& (2147483647 : Int32)) / (lenv + (1 : Int32))) * (lenv + (1 : Int32))), un, un, un, un, un]) rfl) ?_
    show Ends p.tables e below G (T9.setTop (mkF m 278 #[iv vA, iv vB, iv vC, .val (.long vD), .second, iv vW, iv vE, iv nv, iv pv, iv vv, rv b1, iv lenv, iv ((vE &&& (2147483647 : Int32)) - ((vE &&& (2147483647 : Int32)) / (lenv + (1 : Int32))) * (lenv + (1 : Int32))), un, un, un, un, un] []))
    obtain ⟨kk, hk1, hkk⟩ := own_irem (x := vE &&& 2147483647) (y := lenv + 1) (own_mask31 _) hlen1 (by omega)
    generalize ((vE &&& (2147483647 : Int32)) - ((vE &&& (2147483647 : Int32)) / (lenv + (1 : Int32))) * (lenv + (1 : Int32))) = kkv at hkk ⊢
    show Ends p.tables e below G (T9.setTop (mkF m 278 #[iv vA, iv vB, iv vC, .val (.long vD), .second, iv vW, iv vE, iv nv, iv pv, iv vv, rv b1, iv lenv, iv kkv, un, un, un, un, un] []))
    obtain ⟨md, hT1, hT2⟩ := own_tk_split hT (by omega : kk ≤ len)
    have hbd := own_tk_bd VT F kk (0, 0, 0) md 0 hT1
    obtain ⟨T2, h2, X2, e2, E2, A2, D2, -, st2⟩ := newO X9 hx hZ hown (hw _ (List.mem_of_getElem? (i := 2) rfl)) (hw _ (List.mem_of_getElem? (i := 3) rfl)) (hw _ (List.mem_of_getElem? (i := 4) rfl)) e9 (g := (mkF m 278 #[iv vA, iv vB, iv vC, .val (.long vD), .second, iv vW, iv vE, iv nv, iv pv, iv vv, rv b1, iv lenv, iv kkv, un, un, un, un, un] [])) rfl (hb hby at_278) (by decide) (by decide)
    obtain ⟨b2, g2⟩ : ∃ z, z = h9.size := ⟨_, rfl⟩
    rw [← g2] at A2 D2 st2
    have g_b2 : n0 ≤ b2 := Nat.le_trans sz9 (Nat.le_of_eq g2.symm)
    have ne_b1_b2 : b1 ≠ b2 := Nat.ne_of_lt (Nat.lt_of_lt_of_le (AF.lt V9) (Nat.le_of_eq g2.symm))
    have ne_va_b2 : va ≠ b2 := Nat.ne_of_lt (Nat.lt_of_lt_of_le (AF.lt U9) (Nat.le_of_eq g2.symm))
    have f2_V_b1 := AF.ext V9 E2
    have f2_V_va := AF.ext U9 E2
    have f2_T_com_example_belge_belge_SimpleTypes_Base64Check_VALUES := S9.ext E2
    have sz2 := Nat.le_trans sz9 E2.1
    have F2_characters : Fld Z h2 b2 "com/example/belge/belge/SimpleTypes$Base64Check" "characters" "I" (.int (0 : Int32)) := D2 (Or.inl (hw _ (List.mem_of_getElem? (i := 22) rfl))) (ty := .int) (by decide)
    have F2_padding : Fld Z h2 b2 "com/example/belge/belge/SimpleTypes$Base64Check" "padding" "I" (.int (0 : Int32)) := D2 (Or.inl (hw _ (List.mem_of_getElem? (i := 24) rfl))) (ty := .int) (by decide)
    have F2_last : Fld Z h2 b2 "com/example/belge/belge/SimpleTypes$Base64Check" "last" "I" (.int (0 : Int32)) := D2 (Or.inl (hw _ (List.mem_of_getElem? (i := 39) rfl))) (ty := .int) (by decide)
    refine Ends.go (fun _ => st2 _) ?_
    show Ends p.tables e below G (T2.setTop (mkF m 281 #[iv vA, iv vB, iv vC, .val (.long vD), .second, iv vW, iv vE, iv nv, iv pv, iv vv, rv b1, iv lenv, iv kkv, un, un, un, un, un] [(.ref b2)]))
    refine Ends.go (fun _ => XS.dup X2.here hx rfl (hb hby at_281) rfl rfl) ?_
    show Ends p.tables e below G (T2.setTop (mkF m 282 #[iv vA, iv vB, iv vC, .val (.long vD), .second, iv vW, iv vE, iv nv, iv pv, iv vv, rv b1, iv lenv, iv kkv, un, un, un, un, un] [(.ref b2), (.ref b2)]))
    obtain ⟨_, _, ⟨T3, L3, k3, n3⟩, -, X3, ⟨Lc3, hQ3, l3, y3, z3⟩, st3⟩ := X2.specialBack hx (y := (⟨"com/example/belge/belge/SimpleTypes$Base64Check", "<init>", "()V"⟩ : MethodName)) rfl hown (mvT hZ (hw _ (List.mem_of_getElem? (i := 5) rfl))) (mvT hZ (hw _ (List.mem_of_getElem? (i := 6) rfl))) (mvT hZ (hw _ (List.mem_of_getElem? (i := 7) rfl))) (by decide) (backOf (W := 1) (rm1 l Z a0 hw [] b2 h2 n0 sz2) hZ (hw _ (List.mem_of_getElem? (i := 7) rfl)) (hw _ (List.mem_of_getElem? (i := 4) rfl)) (by decide) (by decide)) (g := (mkF m 282 #[iv vA, iv vB, iv vC, .val (.long vD), .second, iv vW, iv vE, iv nv, iv pv, iv vv, rv b1, iv lenv, iv kkv, un, un, un, un, un] [(.ref b2), (.ref b2)])) rfl (by rw [hml]; rfl) (Steps.refl _) (a := b2) (argsL := []) (rest := [(.ref b2)]) (lenOf pd_1 rfl) rfl (by show 2 * 0 + _ ≤ _; exact Nat.le_of_eq rfl) (hb hby at_282) (fun _ _ => ⟨rfl, e2, (by decide : ((0 + 1) + 1) + 0 ≤ _), (by decide : ((0 + 12) + 3) + 0 ≤ _)⟩)
    dsimp only [Pt.U, Pt.locs, Pt.cells, Pt.slots] at X3 l3 y3 z3 st3 hQ3
    subst l3 y3 z3
    obtain ⟨rfl, N3q, e3⟩ := hQ3
    have N3 := Fr.app N9 N3q
    refine Ends.go (fun _ => st3.trans) ?_
    show Ends p.tables e below G (T3.setTop (mkF m 285 #[iv vA, iv vB, iv vC, .val (.long vD), .second, iv vW, iv vE, iv nv, iv pv, iv vv, rv b1, iv lenv, iv kkv, un, un, un, un, un] [(.ref b2)]))
    refine Ends.go (fun _ => XS.astore X3.here hx rfl (hb hby at_285) rfl rfl (l' := #[iv vA, iv vB, iv vC, .val (.long vD), .second, iv vW, iv vE, iv nv, iv pv, iv vv, rv b1, iv lenv, iv kkv, rv b2, un, un, un, un]) rfl) ?_
    show Ends p.tables e below G (T3.setTop (mkF m 287 #[iv vA, iv vB, iv vC, .val (.long vD), .second, iv vW, iv vE, iv nv, iv pv, iv vv, rv b1, iv lenv, iv kkv, rv b2, un, un, un, un] []))
    refine Ends.go (fun _ => XS.aload X3.here hx rfl (hb hby at_287) rfl rfl) ?_
    show Ends p.tables e below G (T3.setTop (mkF m 289 #[iv vA, iv vB, iv vC, .val (.long vD), .second, iv vW, iv vE, iv nv, iv pv, iv vv, rv b1, iv lenv, iv kkv, rv b2, un, un, un, un] [(.ref b2)]))
    refine Ends.go (fun _ => XS.aload X3.here hx rfl (hb hby at_289) rfl rfl) ?_
    show Ends p.tables e below G (T3.setTop (mkF m 291 #[iv vA, iv vB, iv vC, .val (.long vD), .second, iv vW, iv vE, iv nv, iv pv, iv vv, rv b1, iv lenv, iv kkv, rv b2, un, un, un, un] [(.ref b1), (.ref b2)]))
    refine Ends.go (fun _ => XS.iconst X3.here hx rfl (hb hby at_291)) ?_
    show Ends p.tables e below G (T3.setTop (mkF m 292 #[iv vA, iv vB, iv vC, .val (.long vD), .second, iv vW, iv vE, iv nv, iv pv, iv vv, rv b1, iv lenv, iv kkv, rv b2, un, un, un, un] [(.int (0 : Int32)), (.ref b1), (.ref b2)]))
    refine Ends.go (fun _ => XS.iload X3.here hx rfl (hb hby at_292) rfl) ?_
    show Ends p.tables e below G (T3.setTop (mkF m 294 #[iv vA, iv vB, iv vC, .val (.long vD), .second, iv vW, iv vE, iv nv, iv pv, iv vv, rv b1, iv lenv, iv kkv, rv b2, un, un, un, un] [(.int kkv), (.int (0 : Int32)), (.ref b1), (.ref b2)]))
    obtain ⟨cq4, kq4, q4a, q4b, q4c⟩ := isOf hZ e3 A2
    obtain ⟨_, _, ⟨T4, L4, k4, n4⟩, -, X4, ⟨Lc4, hQ4, l4, y4, z4⟩, st4⟩ := X3.virtualBack hx (y := (⟨"com/example/belge/belge/SimpleTypes$Base64Check", "take", "([BII)Z"⟩ : MethodName)) (z := (⟨"com/example/belge/belge/SimpleTypes$Base64Check", "take", "([BII)Z"⟩ : MethodName)) hown (mvT hZ (hw _ (List.mem_of_getElem? (i := 11) rfl))) (mvT hZ (hw _ (List.mem_of_getElem? (i := 12) rfl))) (notFace_of_selects (args := #[]) (mvT hZ (hw _ (List.mem_of_getElem? (i := 14) rfl)))) (mvT hZ (hw _ (List.mem_of_getElem? (i := 14) rfl))) (mvT hZ (hw _ (List.mem_of_getElem? (i := 13) rfl))) (by decide) (backOf (W := 0) (rm3 l Z a0 hw [] b2 b1 (0 : Int32) kkv va F VT (0, 0, 0) md 0 kk h2 n0 sz2 ⟨A2, ⟨_, F2_characters, rfl⟩, ⟨_, F2_padding, rfl⟩, F2_last, f2_V_b1, f2_V_va, f2_T_com_example_belge_belge_SimpleTypes_Base64Check_VALUES⟩ g_b2 rfl hkk (by omega) (by omega) hT1 (by decide) (by decide)) hZ (hw _ (List.mem_of_getElem? (i := 15) rfl)) (hw _ (List.mem_of_getElem? (i := 4) rfl)) (by decide) (by decide)) q4a q4c (g := (mkF m 294 #[iv vA, iv vB, iv vC, .val (.long vD), .second, iv vW, iv vE, iv nv, iv pv, iv vv, rv b1, iv lenv, iv kkv, rv b2, un, un, un, un] [(.int kkv), (.int (0 : Int32)), (.ref b1), (.ref b2)])) rfl (by rw [hml]; rfl) (Steps.refl _) (argsL := [(.ref b1), (.int (0 : Int32)), (.int kkv)]) (rest := []) (lenOf pd_4 rfl) rfl (by show 2 * 0 + _ ≤ _; exact Nat.le_of_eq rfl) (hb hby at_294) (fun _ _ => ⟨rfl, e3, (by decide : (((0 + 1) + 1) + 0) + 0 ≤ _), (by decide : (((0 + 12) + 3) + 0) + 0 ≤ _)⟩)
    dsimp only [Pt.U, Pt.locs, Pt.cells, Pt.slots] at X4 l4 y4 z4 st4 hQ4
    subst l4 y4 z4
    obtain ⟨rfl, N4q, szq4, R4⟩ := hQ4
    have N4 := Fr.app N3 N4q
    have E4 := R4.1
    refine Ends.go (fun _ => st4.trans) ?_
    show Ends p.tables e below G (T4.setTop (mkF m 297 #[iv vA, iv vB, iv vC, .val (.long vD), .second, iv vW, iv vE, iv nv, iv pv, iv vv, rv b1, iv lenv, iv kkv, rv b2, un, un, un, un] [(.int (1 : Int32))]))
    refine Ends.go (fun _ => XS.istore X4.here hx rfl (hb hby at_297) rfl (l' := #[iv vA, iv vB, iv vC, .val (.long vD), .second, iv vW, iv vE, iv nv, iv pv, iv vv, rv b1, iv lenv, iv kkv, rv b2, iv (1 : Int32), un, un, un]) rfl) ?_
    show Ends p.tables e below G (T4.setTop (mkF m 299 #[iv vA, iv vB, iv vC, .val (.long vD), .second, iv vW, iv vE, iv nv, iv pv, iv vv, rv b1, iv lenv, iv kkv, rv b2, iv (1 : Int32), un, un, un] []))
    refine Ends.go (fun _ => XS.aload X4.here hx rfl (hb hby at_299) rfl rfl) ?_
    show Ends p.tables e below G (T4.setTop (mkF m 301 #[iv vA, iv vB, iv vC, .val (.long vD), .second, iv vW, iv vE, iv nv, iv pv, iv vv, rv b1, iv lenv, iv kkv, rv b2, iv (1 : Int32), un, un, un] [(.ref b2)]))
    refine Ends.go (fun _ => XS.aload X4.here hx rfl (hb hby at_301) rfl rfl) ?_
    show Ends p.tables e below G (T4.setTop (mkF m 303 #[iv vA, iv vB, iv vC, .val (.long vD), .second, iv vW, iv vE, iv nv, iv pv, iv vv, rv b1, iv lenv, iv kkv, rv b2, iv (1 : Int32), un, un, un] [(.ref b1), (.ref b2)]))
    refine Ends.go (fun _ => XS.iload X4.here hx rfl (hb hby at_303) rfl) ?_
    show Ends p.tables e below G (T4.setTop (mkF m 305 #[iv vA, iv vB, iv vC, .val (.long vD), .second, iv vW, iv vE, iv nv, iv pv, iv vv, rv b1, iv lenv, iv kkv, rv b2, iv (1 : Int32), un, un, un] [(.int kkv), (.ref b1), (.ref b2)]))
    refine Ends.go (fun _ => XS.iload X4.here hx rfl (hb hby at_305) rfl) ?_
    show Ends p.tables e below G (T4.setTop (mkF m 307 #[iv vA, iv vB, iv vC, .val (.long vD), .second, iv vW, iv vE, iv nv, iv pv, iv vv, rv b1, iv lenv, iv kkv, rv b2, iv (1 : Int32), un, un, un] [(.int lenv), (.int kkv), (.ref b1), (.ref b2)]))
    obtain ⟨cq5, kq5, q5a, q5b, q5c⟩ := isOf hZ rfl E4
    obtain ⟨_, _, ⟨T5, L5, k5, n5⟩, -, X5, ⟨Lc5, hQ5, l5, y5, z5⟩, st5⟩ := X4.virtualBack hx (y := (⟨"com/example/belge/belge/SimpleTypes$Base64Check", "take", "([BII)Z"⟩ : MethodName)) (z := (⟨"com/example/belge/belge/SimpleTypes$Base64Check", "take", "([BII)Z"⟩ : MethodName)) hown (mvT hZ (hw _ (List.mem_of_getElem? (i := 11) rfl))) (mvT hZ (hw _ (List.mem_of_getElem? (i := 12) rfl))) (notFace_of_selects (args := #[]) (mvT hZ (hw _ (List.mem_of_getElem? (i := 14) rfl)))) (mvT hZ (hw _ (List.mem_of_getElem? (i := 14) rfl))) (mvT hZ (hw _ (List.mem_of_getElem? (i := 13) rfl))) (by decide) (backOf (W := 0) (rm3 l Z a0 hw [] b2 b1 kkv lenv va F VT md (n, pn, (if n = 0 then (0 : Int32) else vv)) kk len T4.heap n0 szq4 R4 g_b2 hkk hlen (by omega) hl12 hT2 (Nat.le_trans hbd.1 (by show 0 + kk ≤ 12; omega)) (hbd.2 (by decide))) hZ (hw _ (List.mem_of_getElem? (i := 15) rfl)) (hw _ (List.mem_of_getElem? (i := 4) rfl)) (by decide) (by decide)) q5a q5c (g := (mkF m 307 #[iv vA, iv vB, iv vC, .val (.long vD), .second, iv vW, iv vE, iv nv, iv pv, iv vv, rv b1, iv lenv, iv kkv, rv b2, iv (1 : Int32), un, un, un] [(.int lenv), (.int kkv), (.ref b1), (.ref b2)])) rfl (by rw [hml]; rfl) (Steps.refl _) (argsL := [(.ref b1), (.int kkv), (.int lenv)]) (rest := []) (lenOf pd_4 rfl) rfl (by show 2 * 0 + _ ≤ _; exact Nat.le_of_eq rfl) (hb hby at_307) (fun _ _ => ⟨rfl, rfl, (by decide : ((((0 + 1) + 1) + 0) + 0) + 0 ≤ _), (by decide : ((((0 + 12) + 3) + 0) + 0) + 0 ≤ _)⟩)
    dsimp only [Pt.U, Pt.locs, Pt.cells, Pt.slots] at X5 l5 y5 z5 st5 hQ5
    subst l5 y5 z5
    obtain ⟨rfl, N5q, szq5, R5⟩ := hQ5
    have N5 := Fr.app N4 N5q
    have E5 := R5.1
    refine Ends.go (fun _ => st5.trans) ?_
    show Ends p.tables e below G (T5.setTop (mkF m 310 #[iv vA, iv vB, iv vC, .val (.long vD), .second, iv vW, iv vE, iv nv, iv pv, iv vv, rv b1, iv lenv, iv kkv, rv b2, iv (1 : Int32), un, un, un] [(.int (1 : Int32))]))
    refine Ends.go (fun _ => XS.istore X5.here hx rfl (hb hby at_310) rfl (l' := #[iv vA, iv vB, iv vC, .val (.long vD), .second, iv vW, iv vE, iv nv, iv pv, iv vv, rv b1, iv lenv, iv kkv, rv b2, iv (1 : Int32), iv (1 : Int32), un, un]) rfl) ?_
    show Ends p.tables e below G (T5.setTop (mkF m 312 #[iv vA, iv vB, iv vC, .val (.long vD), .second, iv vW, iv vE, iv nv, iv pv, iv vv, rv b1, iv lenv, iv kkv, rv b2, iv (1 : Int32), iv (1 : Int32), un, un] []))
    refine Ends.go (fun _ => XS.aload X5.here hx rfl (hb hby at_312) rfl rfl) ?_
    show Ends p.tables e below G (T5.setTop (mkF m 314 #[iv vA, iv vB, iv vC, .val (.long vD), .second, iv vW, iv vE, iv nv, iv pv, iv vv, rv b1, iv lenv, iv kkv, rv b2, iv (1 : Int32), iv (1 : Int32), un, un] [(.ref b2)]))
    obtain ⟨cq6, kq6, q6a, q6b, q6c⟩ := isOf hZ rfl E5
    obtain ⟨_, _, ⟨T6, L6, k6, n6⟩, -, X6, ⟨Lc6, hQ6, l6, y6, z6⟩, st6⟩ := X5.virtualBack hx (y := (⟨"com/example/belge/belge/SimpleTypes$Base64Check", "isComplete", "()Z"⟩ : MethodName)) (z := (⟨"com/example/belge/belge/SimpleTypes$Base64Check", "isComplete", "()Z"⟩ : MethodName)) hown (mvT hZ (hw _ (List.mem_of_getElem? (i := 16) rfl))) (mvT hZ (hw _ (List.mem_of_getElem? (i := 17) rfl))) (notFace_of_selects (args := #[]) (mvT hZ (hw _ (List.mem_of_getElem? (i := 19) rfl)))) (mvT hZ (hw _ (List.mem_of_getElem? (i := 19) rfl))) (mvT hZ (hw _ (List.mem_of_getElem? (i := 18) rfl))) (by decide) (backOf (W := 0) (rm4 l Z a0 hw [] b2 b1 va F VT (n, pn, (if n = 0 then (0 : Int32) else vv)) T5.heap n0 szq5 R5 (by show n ≤ 24; omega) (by show pn ≤ 2; omega)) hZ (hw _ (List.mem_of_getElem? (i := 20) rfl)) (hw _ (List.mem_of_getElem? (i := 4) rfl)) (by decide) (by decide)) q6a q6c (g := (mkF m 314 #[iv vA, iv vB, iv vC, .val (.long vD), .second, iv vW, iv vE, iv nv, iv pv, iv vv, rv b1, iv lenv, iv kkv, rv b2, iv (1 : Int32), iv (1 : Int32), un, un] [(.ref b2)])) rfl (by rw [hml]; rfl) (Steps.refl _) (argsL := []) (rest := []) (lenOf pd_5 rfl) rfl (by show 2 * 0 + _ ≤ _; exact Nat.le_of_eq rfl) (hb hby at_314) (fun _ _ => ⟨rfl, rfl, (by decide : (((((0 + 1) + 1) + 0) + 0) + 0) + 0 ≤ _), (by decide : (((((0 + 12) + 3) + 0) + 0) + 0) + 0 ≤ _)⟩)
    dsimp only [Pt.U, Pt.locs, Pt.cells, Pt.slots] at X6 l6 y6 z6 st6 hQ6
    subst l6 y6 z6
    obtain ⟨rq, rfl, N6q, e6, hrq⟩ := hQ6
    have N6 := Fr.app N5 N6q
    refine Ends.go (fun _ => st6.trans) ?_
    show Ends p.tables e below G (T6.setTop (mkF m 317 #[iv vA, iv vB, iv vC, .val (.long vD), .second, iv vW, iv vE, iv nv, iv pv, iv vv, rv b1, iv lenv, iv kkv, rv b2, iv (1 : Int32), iv (1 : Int32), un, un] [(.int rq)]))
    refine Ends.go (fun _ => XS.istore X6.here hx rfl (hb hby at_317) rfl (l' := #[iv vA, iv vB, iv vC, .val (.long vD), .second, iv vW, iv vE, iv nv, iv pv, iv vv, rv b1, iv lenv, iv kkv, rv b2, iv (1 : Int32), iv (1 : Int32), iv rq, un]) rfl) ?_
    show Ends p.tables e below G (T6.setTop (mkF m 319 #[iv vA, iv vB, iv vC, .val (.long vD), .second, iv vW, iv vE, iv nv, iv pv, iv vv, rv b1, iv lenv, iv kkv, rv b2, iv (1 : Int32), iv (1 : Int32), iv rq, un] []))
    refine Ends.go (fun _ => XS.iload X6.here hx rfl (hb hby at_319) rfl) ?_
    show Ends p.tables e below G (T6.setTop (mkF m 321 #[iv vA, iv vB, iv vC, .val (.long vD), .second, iv vW, iv vE, iv nv, iv pv, iv vv, rv b1, iv lenv, iv kkv, rv b2, iv (1 : Int32), iv (1 : Int32), iv rq, un] [(.int pv)]))
    have at395 : ∀ (ex : Int32), ((ex = 1 ∧ own_full (n, pn, (if n = 0 then (0 : Int32) else vv))) ∨ (ex = 0 ∧ ¬ own_full (n, pn, (if n = 0 then (0 : Int32) else vv)))) → Ends p.tables e below G (T6.setTop (mkF m 395 #[iv vA, iv vB, iv vC, .val (.long vD), .second, iv vW, iv vE, iv nv, iv pv, iv vv, rv b1, iv lenv, iv kkv, rv b2, iv (1 : Int32), iv (1 : Int32), iv rq, iv ex] [])) := by
      intro ex hex
      have hsame : rq = ex := by
        rcases hrq with ⟨a1, a2⟩ | ⟨a1, a2⟩ <;> rcases hex with ⟨b1, b2⟩ | ⟨b1, b2⟩
        · rw [a1, b1]
        · exact absurd a2 b2
        · exact absurd b2 a2
        · rw [a1, b1]
      refine Ends.go (fun _ => XS.iload X6.here hx rfl (hb hby at_395) rfl) ?_
      show Ends p.tables e below G (T6.setTop (mkF m 397 #[iv vA, iv vB, iv vC, .val (.long vD), .second, iv vW, iv vE, iv nv, iv pv, iv vv, rv b1, iv lenv, iv kkv, rv b2, iv (1 : Int32), iv (1 : Int32), iv rq, iv ex] [(.int (1 : Int32))]))
      refine Ends.go (fun _ => XS.ifNo X6.here hx rfl (hb hby at_397) rfl ((if0 _ _).trans (feq (by decide : ¬ ((1 : Int32) = (0 : Int32)))).1)) ?_
      show Ends p.tables e below G (T6.setTop (mkF m 400 #[iv vA, iv vB, iv vC, .val (.long vD), .second, iv vW, iv vE, iv nv, iv pv, iv vv, rv b1, iv lenv, iv kkv, rv b2, iv (1 : Int32), iv (1 : Int32), iv rq, iv ex] []))
      refine Ends.go (fun _ => XS.iload X6.here hx rfl (hb hby at_400) rfl) ?_
      show Ends p.tables e below G (T6.setTop (mkF m 402 #[iv vA, iv vB, iv vC, .val (.long vD), .second, iv vW, iv vE, iv nv, iv pv, iv vv, rv b1, iv lenv, iv kkv, rv b2, iv (1 : Int32), iv (1 : Int32), iv rq, iv ex] [(.int (1 : Int32))]))
      refine Ends.go (fun _ => XS.ifNo X6.here hx rfl (hb hby at_402) rfl ((if0 _ _).trans (feq (by decide : ¬ ((1 : Int32) = (0 : Int32)))).1)) ?_
      show Ends p.tables e below G (T6.setTop (mkF m 405 #[iv vA, iv vB, iv vC, .val (.long vD), .second, iv vW, iv vE, iv nv, iv pv, iv vv, rv b1, iv lenv, iv kkv, rv b2, iv (1 : Int32), iv (1 : Int32), iv rq, iv ex] []))
      refine Ends.go (fun _ => XS.iload X6.here hx rfl (hb hby at_405) rfl) ?_
      show Ends p.tables e below G (T6.setTop (mkF m 407 #[iv vA, iv vB, iv vC, .val (.long vD), .second, iv vW, iv vE, iv nv, iv pv, iv vv, rv b1, iv lenv, iv kkv, rv b2, iv (1 : Int32), iv (1 : Int32), iv rq, iv ex] [(.int rq)]))
      refine Ends.go (fun _ => XS.iload X6.here hx rfl (hb hby at_407) rfl) ?_
      show Ends p.tables e below G (T6.setTop (mkF m 409 #[iv vA, iv vB, iv vC, .val (.long vD), .second, iv vW, iv vE, iv nv, iv pv, iv vv, rv b1, iv lenv, iv kkv, rv b2, iv (1 : Int32), iv (1 : Int32), iv rq, iv ex] [(.int ex), (.int rq)]))
      refine Ends.go (fun _ => XS.icmpNo X6.here hx rfl (hb hby at_409) rfl (teq (hsame : rq = ex)).2) ?_
      show Ends p.tables e below G (T6.setTop (mkF m 412 #[iv vA, iv vB, iv vC, .val (.long vD), .second, iv vW, iv vE, iv nv, iv pv, iv vv, rv b1, iv lenv, iv kkv, rv b2, iv (1 : Int32), iv (1 : Int32), iv rq, iv ex] []))
      refine Ends.go (fun _ => XS.iconst X6.here hx rfl (hb hby at_412)) ?_
      show Ends p.tables e below G (T6.setTop (mkF m 413 #[iv vA, iv vB, iv vC, .val (.long vD), .second, iv vW, iv vE, iv nv, iv pv, iv vv, rv b1, iv lenv, iv kkv, rv b2, iv (1 : Int32), iv (1 : Int32), iv rq, iv ex] [(.int (1 : Int32))]))
      refine Ends.go (fun _ => XS.goto X6.here hx rfl (pc0 := 413) (pc' := 417) rfl (hb hby at_413) (by decide) (by decide)) ?_
      show Ends p.tables e below G (T6.setTop (mkF m 417 #[iv vA, iv vB, iv vC, .val (.long vD), .second, iv vW, iv vE, iv nv, iv pv, iv vv, rv b1, iv lenv, iv kkv, rv b2, iv (1 : Int32), iv (1 : Int32), iv rq, iv ex] [(.int (1 : Int32))]))
      refine own_finS (t := .boolean) X6 hx Bd.returns (by simp) Bd.notSynchronized (hb hby at_417) (Q := (Q0 Z vA vB vC vD vW vE va VT h0 n0)) hG (by decide) (by decide) ?_
      show (Q0 Z vA vB vC vD vW vE va VT h0 n0) _ T6.heap _
      rw [e6]
      exact ⟨rfl, N6⟩
    have hr4 := own_rem hn (y := 4) (b := 4) rfl
    have hv4 := own_rem hv (y := 4) (b := 4) rfl
    have hv16 := own_rem hv (y := 16) (b := 16) rfl
    have o0 : (0 : Int32).toInt = ((0 : Nat) : Int) := rfl
    by_cases k0 : pn = 0
    · refine Ends.go (fun _ => XS.ifNo X6.here hx rfl (hb hby at_321) rfl ((if0 _ _).trans (teq ((own_eqn hp (b := 0) rfl).mpr k0 : pv = (0 : Int32))).2)) ?_
      show Ends p.tables e below G (T6.setTop (mkF m 324 #[iv vA, iv vB, iv vC, .val (.long vD), .second, iv vW, iv vE, iv nv, iv pv, iv vv, rv b1, iv lenv, iv kkv, rv b2, iv (1 : Int32), iv (1 : Int32), iv rq, un] []))
      subst k0
      refine Ends.go (fun _ => XS.iload X6.here hx rfl (hb hby at_324) rfl) ?_
      show Ends p.tables e below G (T6.setTop (mkF m 326 #[iv vA, iv vB, iv vC, .val (.long vD), .second, iv vW, iv vE, iv nv, iv pv, iv vv, rv b1, iv lenv, iv kkv, rv b2, iv (1 : Int32), iv (1 : Int32), iv rq, un] [(.int nv)]))
      refine Ends.go (fun _ => XS.iconst X6.here hx rfl (hb hby at_326)) ?_
      show Ends p.tables e below G (T6.setTop (mkF m 327 #[iv vA, iv vB, iv vC, .val (.long vD), .second, iv vW, iv vE, iv nv, iv pv, iv vv, rv b1, iv lenv, iv kkv, rv b2, iv (1 : Int32), iv (1 : Int32), iv rq, un] [(.int (4 : Int32)), (.int nv)]))
      refine Ends.go (fun _ => XS.irem X6.here hx rfl (hb hby at_327) rfl (by decide)) ?_
      show Ends p.tables e below G (T6.setTop (mkF m 328 #[iv vA, iv vB, iv vC, .val (.long vD), .second, iv vW, iv vE, iv nv, iv pv, iv vv, rv b1, iv lenv, iv kkv, rv b2, iv (1 : Int32), iv (1 : Int32), iv rq, un] [(.int (nv - (nv / (4 : Int32)) * (4 : Int32)))]))
      by_cases k1 : n % 4 = 0
      · refine Ends.go (fun _ => XS.ifNo X6.here hx rfl (hb hby at_328) rfl ((if0 _ _).trans (teq ((own_eqn hr4 (b := 0) rfl).mpr k1 : (nv - (nv / (4 : Int32)) * (4 : Int32)) = (0 : Int32))).2)) ?_
        show Ends p.tables e below G (T6.setTop (mkF m 331 #[iv vA, iv vB, iv vC, .val (.long vD), .second, iv vW, iv vE, iv nv, iv pv, iv vv, rv b1, iv lenv, iv kkv, rv b2, iv (1 : Int32), iv (1 : Int32), iv rq, un] []))
        refine Ends.go (fun _ => XS.iconst X6.here hx rfl (hb hby at_331)) ?_
        show Ends p.tables e below G (T6.setTop (mkF m 332 #[iv vA, iv vB, iv vC, .val (.long vD), .second, iv vW, iv vE, iv nv, iv pv, iv vv, rv b1, iv lenv, iv kkv, rv b2, iv (1 : Int32), iv (1 : Int32), iv rq, un] [(.int (1 : Int32))]))
        refine Ends.go (fun _ => XS.goto X6.here hx rfl (pc0 := 332) (pc' := 336) rfl (hb hby at_332) (by decide) (by decide)) ?_
        show Ends p.tables e below G (T6.setTop (mkF m 336 #[iv vA, iv vB, iv vC, .val (.long vD), .second, iv vW, iv vE, iv nv, iv pv, iv vv, rv b1, iv lenv, iv kkv, rv b2, iv (1 : Int32), iv (1 : Int32), iv rq, un] [(.int (1 : Int32))]))
        refine Ends.go (fun _ => XS.istore X6.here hx rfl (hb hby at_336) rfl (l' := #[iv vA, iv vB, iv vC, .val (.long vD), .second, iv vW, iv vE, iv nv, iv pv, iv vv, rv b1, iv lenv, iv kkv, rv b2, iv (1 : Int32), iv (1 : Int32), iv rq, iv (1 : Int32)]) rfl) ?_
        show Ends p.tables e below G (T6.setTop (mkF m 338 #[iv vA, iv vB, iv vC, .val (.long vD), .second, iv vW, iv vE, iv nv, iv pv, iv vv, rv b1, iv lenv, iv kkv, rv b2, iv (1 : Int32), iv (1 : Int32), iv rq, iv (1 : Int32)] []))
        refine Ends.go (fun _ => XS.goto X6.here hx rfl (pc0 := 338) (pc' := 395) rfl (hb hby at_338) (by decide) (by decide)) ?_
        show Ends p.tables e below G (T6.setTop (mkF m 395 #[iv vA, iv vB, iv vC, .val (.long vD), .second, iv vW, iv vE, iv nv, iv pv, iv vv, rv b1, iv lenv, iv kkv, rv b2, iv (1 : Int32), iv (1 : Int32), iv rq, iv (1 : Int32)] []))
        exact at395 _ (Or.inl ⟨rfl, own_f0.mpr k1⟩)
      · refine Ends.go (fun _ => XS.ifYes X6.here hx rfl (pc0 := 328) (pc' := 335) rfl (hb hby at_328) rfl ((if0 _ _).trans (feq (fun z => k1 ((own_eqn hr4 (b := 0) rfl).mp z) : ¬ ((nv - (nv / (4 : Int32)) * (4 : Int32)) = (0 : Int32)))).2) (by decide) (by decide)) ?_
        show Ends p.tables e below G (T6.setTop (mkF m 335 #[iv vA, iv vB, iv vC, .val (.long vD), .second, iv vW, iv vE, iv nv, iv pv, iv vv, rv b1, iv lenv, iv kkv, rv b2, iv (1 : Int32), iv (1 : Int32), iv rq, un] []))
        refine Ends.go (fun _ => XS.iconst X6.here hx rfl (hb hby at_335)) ?_
        show Ends p.tables e below G (T6.setTop (mkF m 336 #[iv vA, iv vB, iv vC, .val (.long vD), .second, iv vW, iv vE, iv nv, iv pv, iv vv, rv b1, iv lenv, iv kkv, rv b2, iv (1 : Int32), iv (1 : Int32), iv rq, un] [(.int (0 : Int32))]))
        refine Ends.go (fun _ => XS.istore X6.here hx rfl (hb hby at_336) rfl (l' := #[iv vA, iv vB, iv vC, .val (.long vD), .second, iv vW, iv vE, iv nv, iv pv, iv vv, rv b1, iv lenv, iv kkv, rv b2, iv (1 : Int32), iv (1 : Int32), iv rq, iv (0 : Int32)]) rfl) ?_
        show Ends p.tables e below G (T6.setTop (mkF m 338 #[iv vA, iv vB, iv vC, .val (.long vD), .second, iv vW, iv vE, iv nv, iv pv, iv vv, rv b1, iv lenv, iv kkv, rv b2, iv (1 : Int32), iv (1 : Int32), iv rq, iv (0 : Int32)] []))
        refine Ends.go (fun _ => XS.goto X6.here hx rfl (pc0 := 338) (pc' := 395) rfl (hb hby at_338) (by decide) (by decide)) ?_
        show Ends p.tables e below G (T6.setTop (mkF m 395 #[iv vA, iv vB, iv vC, .val (.long vD), .second, iv vW, iv vE, iv nv, iv pv, iv vv, rv b1, iv lenv, iv kkv, rv b2, iv (1 : Int32), iv (1 : Int32), iv rq, iv (0 : Int32)] []))
        exact at395 _ (Or.inr ⟨rfl, fun z => k1 (own_f0.mp z)⟩)
    · refine Ends.go (fun _ => XS.ifYes X6.here hx rfl (pc0 := 321) (pc' := 341) rfl (hb hby at_321) rfl ((if0 _ _).trans (feq (fun z => k0 ((own_eqn hp (b := 0) rfl).mp z) : ¬ (pv = (0 : Int32)))).2) (by decide) (by decide)) ?_
      show Ends p.tables e below G (T6.setTop (mkF m 341 #[iv vA, iv vB, iv vC, .val (.long vD), .second, iv vW, iv vE, iv nv, iv pv, iv vv, rv b1, iv lenv, iv kkv, rv b2, iv (1 : Int32), iv (1 : Int32), iv rq, un] []))
      refine Ends.go (fun _ => XS.iload X6.here hx rfl (hb hby at_341) rfl) ?_
      show Ends p.tables e below G (T6.setTop (mkF m 343 #[iv vA, iv vB, iv vC, .val (.long vD), .second, iv vW, iv vE, iv nv, iv pv, iv vv, rv b1, iv lenv, iv kkv, rv b2, iv (1 : Int32), iv (1 : Int32), iv rq, un] [(.int pv)]))
      refine Ends.go (fun _ => XS.iconst X6.here hx rfl (hb hby at_343)) ?_
      show Ends p.tables e below G (T6.setTop (mkF m 344 #[iv vA, iv vB, iv vC, .val (.long vD), .second, iv vW, iv vE, iv nv, iv pv, iv vv, rv b1, iv lenv, iv kkv, rv b2, iv (1 : Int32), iv (1 : Int32), iv rq, un] [(.int (1 : Int32)), (.int pv)]))
      by_cases k2 : pn = 1
      · refine Ends.go (fun _ => XS.icmpNo X6.here hx rfl (hb hby at_344) rfl (teq ((own_eqn hp (b := 1) rfl).mpr k2 : pv = (1 : Int32))).2) ?_
        show Ends p.tables e below G (T6.setTop (mkF m 347 #[iv vA, iv vB, iv vC, .val (.long vD), .second, iv vW, iv vE, iv nv, iv pv, iv vv, rv b1, iv lenv, iv kkv, rv b2, iv (1 : Int32), iv (1 : Int32), iv rq, un] []))
        subst k2
        refine Ends.go (fun _ => XS.iload X6.here hx rfl (hb hby at_347) rfl) ?_
        show Ends p.tables e below G (T6.setTop (mkF m 349 #[iv vA, iv vB, iv vC, .val (.long vD), .second, iv vW, iv vE, iv nv, iv pv, iv vv, rv b1, iv lenv, iv kkv, rv b2, iv (1 : Int32), iv (1 : Int32), iv rq, un] [(.int nv)]))
        refine Ends.go (fun _ => XS.iconst X6.here hx rfl (hb hby at_349)) ?_
        show Ends p.tables e below G (T6.setTop (mkF m 350 #[iv vA, iv vB, iv vC, .val (.long vD), .second, iv vW, iv vE, iv nv, iv pv, iv vv, rv b1, iv lenv, iv kkv, rv b2, iv (1 : Int32), iv (1 : Int32), iv rq, un] [(.int (4 : Int32)), (.int nv)]))
        refine Ends.go (fun _ => XS.irem X6.here hx rfl (hb hby at_350) rfl (by decide)) ?_
        show Ends p.tables e below G (T6.setTop (mkF m 351 #[iv vA, iv vB, iv vC, .val (.long vD), .second, iv vW, iv vE, iv nv, iv pv, iv vv, rv b1, iv lenv, iv kkv, rv b2, iv (1 : Int32), iv (1 : Int32), iv rq, un] [(.int (nv - (nv / (4 : Int32)) * (4 : Int32)))]))
        refine Ends.go (fun _ => XS.iconst X6.here hx rfl (hb hby at_351)) ?_
        show Ends p.tables e below G (T6.setTop (mkF m 352 #[iv vA, iv vB, iv vC, .val (.long vD), .second, iv vW, iv vE, iv nv, iv pv, iv vv, rv b1, iv lenv, iv kkv, rv b2, iv (1 : Int32), iv (1 : Int32), iv rq, un] [(.int (3 : Int32)), (.int (nv - (nv / (4 : Int32)) * (4 : Int32)))]))
        by_cases k3 : n % 4 = 3
        · refine Ends.go (fun _ => XS.icmpNo X6.here hx rfl (hb hby at_352) rfl (teq ((own_eqn hr4 (b := 3) rfl).mpr k3 : (nv - (nv / (4 : Int32)) * (4 : Int32)) = (3 : Int32))).2) ?_
          show Ends p.tables e below G (T6.setTop (mkF m 355 #[iv vA, iv vB, iv vC, .val (.long vD), .second, iv vW, iv vE, iv nv, iv pv, iv vv, rv b1, iv lenv, iv kkv, rv b2, iv (1 : Int32), iv (1 : Int32), iv rq, un] []))
          refine Ends.go (fun _ => XS.iload X6.here hx rfl (hb hby at_355) rfl) ?_
          show Ends p.tables e below G (T6.setTop (mkF m 357 #[iv vA, iv vB, iv vC, .val (.long vD), .second, iv vW, iv vE, iv nv, iv pv, iv vv, rv b1, iv lenv, iv kkv, rv b2, iv (1 : Int32), iv (1 : Int32), iv rq, un] [(.int vv)]))
          refine Ends.go (fun _ => XS.iconst X6.here hx rfl (hb hby at_357)) ?_
          show Ends p.tables e below G (T6.setTop (mkF m 358 #[iv vA, iv vB, iv vC, .val (.long vD), .second, iv vW, iv vE, iv nv, iv pv, iv vv, rv b1, iv lenv, iv kkv, rv b2, iv (1 : Int32), iv (1 : Int32), iv rq, un] [(.int (4 : Int32)), (.int vv)]))
          refine Ends.go (fun _ => XS.irem X6.here hx rfl (hb hby at_358) rfl (by decide)) ?_
          show Ends p.tables e below G (T6.setTop (mkF m 359 #[iv vA, iv vB, iv vC, .val (.long vD), .second, iv vW, iv vE, iv nv, iv pv, iv vv, rv b1, iv lenv, iv kkv, rv b2, iv (1 : Int32), iv (1 : Int32), iv rq, un] [(.int (vv - (vv / (4 : Int32)) * (4 : Int32)))]))
          by_cases k4 : vn % 4 = 0
          · refine Ends.go (fun _ => XS.ifNo X6.here hx rfl (hb hby at_359) rfl ((if0 _ _).trans (teq ((own_eqn hv4 (b := 0) rfl).mpr k4 : (vv - (vv / (4 : Int32)) * (4 : Int32)) = (0 : Int32))).2)) ?_
            show Ends p.tables e below G (T6.setTop (mkF m 362 #[iv vA, iv vB, iv vC, .val (.long vD), .second, iv vW, iv vE, iv nv, iv pv, iv vv, rv b1, iv lenv, iv kkv, rv b2, iv (1 : Int32), iv (1 : Int32), iv rq, un] []))
            refine Ends.go (fun _ => XS.iconst X6.here hx rfl (hb hby at_362)) ?_
            show Ends p.tables e below G (T6.setTop (mkF m 363 #[iv vA, iv vB, iv vC, .val (.long vD), .second, iv vW, iv vE, iv nv, iv pv, iv vv, rv b1, iv lenv, iv kkv, rv b2, iv (1 : Int32), iv (1 : Int32), iv rq, un] [(.int (1 : Int32))]))
            refine Ends.go (fun _ => XS.goto X6.here hx rfl (pc0 := 363) (pc' := 367) rfl (hb hby at_363) (by decide) (by decide)) ?_
            show Ends p.tables e below G (T6.setTop (mkF m 367 #[iv vA, iv vB, iv vC, .val (.long vD), .second, iv vW, iv vE, iv nv, iv pv, iv vv, rv b1, iv lenv, iv kkv, rv b2, iv (1 : Int32), iv (1 : Int32), iv rq, un] [(.int (1 : Int32))]))
            refine Ends.go (fun _ => XS.istore X6.here hx rfl (hb hby at_367) rfl (l' := #[iv vA, iv vB, iv vC, .val (.long vD), .second, iv vW, iv vE, iv nv, iv pv, iv vv, rv b1, iv lenv, iv kkv, rv b2, iv (1 : Int32), iv (1 : Int32), iv rq, iv (1 : Int32)]) rfl) ?_
            show Ends p.tables e below G (T6.setTop (mkF m 369 #[iv vA, iv vB, iv vC, .val (.long vD), .second, iv vW, iv vE, iv nv, iv pv, iv vv, rv b1, iv lenv, iv kkv, rv b2, iv (1 : Int32), iv (1 : Int32), iv rq, iv (1 : Int32)] []))
            refine Ends.go (fun _ => XS.goto X6.here hx rfl (pc0 := 369) (pc' := 395) rfl (hb hby at_369) (by decide) (by decide)) ?_
            show Ends p.tables e below G (T6.setTop (mkF m 395 #[iv vA, iv vB, iv vC, .val (.long vD), .second, iv vW, iv vE, iv nv, iv pv, iv vv, rv b1, iv lenv, iv kkv, rv b2, iv (1 : Int32), iv (1 : Int32), iv rq, iv (1 : Int32)] []))
            exact at395 _ (Or.inl ⟨rfl, own_f1.mpr ⟨k3, by rw [if_neg (by omega)]; exact (own_m4 hv).mpr k4⟩⟩)
          · refine Ends.go (fun _ => XS.ifYes X6.here hx rfl (pc0 := 359) (pc' := 366) rfl (hb hby at_359) rfl ((if0 _ _).trans (feq (fun z => k4 ((own_eqn hv4 (b := 0) rfl).mp z) : ¬ ((vv - (vv / (4 : Int32)) * (4 : Int32)) = (0 : Int32)))).2) (by decide) (by decide)) ?_
            show Ends p.tables e below G (T6.setTop (mkF m 366 #[iv vA, iv vB, iv vC, .val (.long vD), .second, iv vW, iv vE, iv nv, iv pv, iv vv, rv b1, iv lenv, iv kkv, rv b2, iv (1 : Int32), iv (1 : Int32), iv rq, un] []))
            refine Ends.go (fun _ => XS.iconst X6.here hx rfl (hb hby at_366)) ?_
            show Ends p.tables e below G (T6.setTop (mkF m 367 #[iv vA, iv vB, iv vC, .val (.long vD), .second, iv vW, iv vE, iv nv, iv pv, iv vv, rv b1, iv lenv, iv kkv, rv b2, iv (1 : Int32), iv (1 : Int32), iv rq, un] [(.int (0 : Int32))]))
            refine Ends.go (fun _ => XS.istore X6.here hx rfl (hb hby at_367) rfl (l' := #[iv vA, iv vB, iv vC, .val (.long vD), .second, iv vW, iv vE, iv nv, iv pv, iv vv, rv b1, iv lenv, iv kkv, rv b2, iv (1 : Int32), iv (1 : Int32), iv rq, iv (0 : Int32)]) rfl) ?_
            show Ends p.tables e below G (T6.setTop (mkF m 369 #[iv vA, iv vB, iv vC, .val (.long vD), .second, iv vW, iv vE, iv nv, iv pv, iv vv, rv b1, iv lenv, iv kkv, rv b2, iv (1 : Int32), iv (1 : Int32), iv rq, iv (0 : Int32)] []))
            refine Ends.go (fun _ => XS.goto X6.here hx rfl (pc0 := 369) (pc' := 395) rfl (hb hby at_369) (by decide) (by decide)) ?_
            show Ends p.tables e below G (T6.setTop (mkF m 395 #[iv vA, iv vB, iv vC, .val (.long vD), .second, iv vW, iv vE, iv nv, iv pv, iv vv, rv b1, iv lenv, iv kkv, rv b2, iv (1 : Int32), iv (1 : Int32), iv rq, iv (0 : Int32)] []))
            exact at395 _ (Or.inr ⟨rfl, fun z => k4 ((own_m4 hv).mp (by have z2 := (own_f1.mp z).2; rw [if_neg (by omega)] at z2; exact z2))⟩)
        · refine Ends.go (fun _ => XS.icmpYes X6.here hx rfl (pc0 := 352) (pc' := 366) rfl (hb hby at_352) rfl (feq (fun z => k3 ((own_eqn hr4 (b := 3) rfl).mp z) : ¬ ((nv - (nv / (4 : Int32)) * (4 : Int32)) = (3 : Int32)))).2 (by decide) (by decide)) ?_
          show Ends p.tables e below G (T6.setTop (mkF m 366 #[iv vA, iv vB, iv vC, .val (.long vD), .second, iv vW, iv vE, iv nv, iv pv, iv vv, rv b1, iv lenv, iv kkv, rv b2, iv (1 : Int32), iv (1 : Int32), iv rq, un] []))
          refine Ends.go (fun _ => XS.iconst X6.here hx rfl (hb hby at_366)) ?_
          show Ends p.tables e below G (T6.setTop (mkF m 367 #[iv vA, iv vB, iv vC, .val (.long vD), .second, iv vW, iv vE, iv nv, iv pv, iv vv, rv b1, iv lenv, iv kkv, rv b2, iv (1 : Int32), iv (1 : Int32), iv rq, un] [(.int (0 : Int32))]))
          refine Ends.go (fun _ => XS.istore X6.here hx rfl (hb hby at_367) rfl (l' := #[iv vA, iv vB, iv vC, .val (.long vD), .second, iv vW, iv vE, iv nv, iv pv, iv vv, rv b1, iv lenv, iv kkv, rv b2, iv (1 : Int32), iv (1 : Int32), iv rq, iv (0 : Int32)]) rfl) ?_
          show Ends p.tables e below G (T6.setTop (mkF m 369 #[iv vA, iv vB, iv vC, .val (.long vD), .second, iv vW, iv vE, iv nv, iv pv, iv vv, rv b1, iv lenv, iv kkv, rv b2, iv (1 : Int32), iv (1 : Int32), iv rq, iv (0 : Int32)] []))
          refine Ends.go (fun _ => XS.goto X6.here hx rfl (pc0 := 369) (pc' := 395) rfl (hb hby at_369) (by decide) (by decide)) ?_
          show Ends p.tables e below G (T6.setTop (mkF m 395 #[iv vA, iv vB, iv vC, .val (.long vD), .second, iv vW, iv vE, iv nv, iv pv, iv vv, rv b1, iv lenv, iv kkv, rv b2, iv (1 : Int32), iv (1 : Int32), iv rq, iv (0 : Int32)] []))
          exact at395 _ (Or.inr ⟨rfl, fun z => k3 (own_f1.mp z).1⟩)
      · refine Ends.go (fun _ => XS.icmpYes X6.here hx rfl (pc0 := 344) (pc' := 372) rfl (hb hby at_344) rfl (feq (fun z => k2 ((own_eqn hp (b := 1) rfl).mp z) : ¬ (pv = (1 : Int32)))).2 (by decide) (by decide)) ?_
        show Ends p.tables e below G (T6.setTop (mkF m 372 #[iv vA, iv vB, iv vC, .val (.long vD), .second, iv vW, iv vE, iv nv, iv pv, iv vv, rv b1, iv lenv, iv kkv, rv b2, iv (1 : Int32), iv (1 : Int32), iv rq, un] []))
        obtain rfl : pn = 2 := by omega
        refine Ends.go (fun _ => XS.iload X6.here hx rfl (hb hby at_372) rfl) ?_
        show Ends p.tables e below G (T6.setTop (mkF m 374 #[iv vA, iv vB, iv vC, .val (.long vD), .second, iv vW, iv vE, iv nv, iv pv, iv vv, rv b1, iv lenv, iv kkv, rv b2, iv (1 : Int32), iv (1 : Int32), iv rq, un] [(.int nv)]))
        refine Ends.go (fun _ => XS.iconst X6.here hx rfl (hb hby at_374)) ?_
        show Ends p.tables e below G (T6.setTop (mkF m 375 #[iv vA, iv vB, iv vC, .val (.long vD), .second, iv vW, iv vE, iv nv, iv pv, iv vv, rv b1, iv lenv, iv kkv, rv b2, iv (1 : Int32), iv (1 : Int32), iv rq, un] [(.int (4 : Int32)), (.int nv)]))
        refine Ends.go (fun _ => XS.irem X6.here hx rfl (hb hby at_375) rfl (by decide)) ?_
        show Ends p.tables e below G (T6.setTop (mkF m 376 #[iv vA, iv vB, iv vC, .val (.long vD), .second, iv vW, iv vE, iv nv, iv pv, iv vv, rv b1, iv lenv, iv kkv, rv b2, iv (1 : Int32), iv (1 : Int32), iv rq, un] [(.int (nv - (nv / (4 : Int32)) * (4 : Int32)))]))
        refine Ends.go (fun _ => XS.iconst X6.here hx rfl (hb hby at_376)) ?_
        show Ends p.tables e below G (T6.setTop (mkF m 377 #[iv vA, iv vB, iv vC, .val (.long vD), .second, iv vW, iv vE, iv nv, iv pv, iv vv, rv b1, iv lenv, iv kkv, rv b2, iv (1 : Int32), iv (1 : Int32), iv rq, un] [(.int (2 : Int32)), (.int (nv - (nv / (4 : Int32)) * (4 : Int32)))]))
        by_cases k3 : n % 4 = 2
        · refine Ends.go (fun _ => XS.icmpNo X6.here hx rfl (hb hby at_377) rfl (teq ((own_eqn hr4 (b := 2) rfl).mpr k3 : (nv - (nv / (4 : Int32)) * (4 : Int32)) = (2 : Int32))).2) ?_
          show Ends p.tables e below G (T6.setTop (mkF m 380 #[iv vA, iv vB, iv vC, .val (.long vD), .second, iv vW, iv vE, iv nv, iv pv, iv vv, rv b1, iv lenv, iv kkv, rv b2, iv (1 : Int32), iv (1 : Int32), iv rq, un] []))
          refine Ends.go (fun _ => XS.iload X6.here hx rfl (hb hby at_380) rfl) ?_
          show Ends p.tables e below G (T6.setTop (mkF m 382 #[iv vA, iv vB, iv vC, .val (.long vD), .second, iv vW, iv vE, iv nv, iv pv, iv vv, rv b1, iv lenv, iv kkv, rv b2, iv (1 : Int32), iv (1 : Int32), iv rq, un] [(.int vv)]))
          refine Ends.go (fun _ => XS.bipush X6.here hx rfl (hb hby at_382)) ?_
          show Ends p.tables e below G (T6.setTop (mkF m 384 #[iv vA, iv vB, iv vC, .val (.long vD), .second, iv vW, iv vE, iv nv, iv pv, iv vv, rv b1, iv lenv, iv kkv, rv b2, iv (1 : Int32), iv (1 : Int32), iv rq, un] [(.int (16 : Int32)), (.int vv)]))
          refine Ends.go (fun _ => XS.irem X6.here hx rfl (hb hby at_384) rfl (by decide)) ?_
          show Ends p.tables e below G (T6.setTop (mkF m 385 #[iv vA, iv vB, iv vC, .val (.long vD), .second, iv vW, iv vE, iv nv, iv pv, iv vv, rv b1, iv lenv, iv kkv, rv b2, iv (1 : Int32), iv (1 : Int32), iv rq, un] [(.int (vv - (vv / (16 : Int32)) * (16 : Int32)))]))
          by_cases k4 : vn % 16 = 0
          · refine Ends.go (fun _ => XS.ifNo X6.here hx rfl (hb hby at_385) rfl ((if0 _ _).trans (teq ((own_eqn hv16 (b := 0) rfl).mpr k4 : (vv - (vv / (16 : Int32)) * (16 : Int32)) = (0 : Int32))).2)) ?_
            show Ends p.tables e below G (T6.setTop (mkF m 388 #[iv vA, iv vB, iv vC, .val (.long vD), .second, iv vW, iv vE, iv nv, iv pv, iv vv, rv b1, iv lenv, iv kkv, rv b2, iv (1 : Int32), iv (1 : Int32), iv rq, un] []))
            refine Ends.go (fun _ => XS.iconst X6.here hx rfl (hb hby at_388)) ?_
            show Ends p.tables e below G (T6.setTop (mkF m 389 #[iv vA, iv vB, iv vC, .val (.long vD), .second, iv vW, iv vE, iv nv, iv pv, iv vv, rv b1, iv lenv, iv kkv, rv b2, iv (1 : Int32), iv (1 : Int32), iv rq, un] [(.int (1 : Int32))]))
            refine Ends.go (fun _ => XS.goto X6.here hx rfl (pc0 := 389) (pc' := 393) rfl (hb hby at_389) (by decide) (by decide)) ?_
            show Ends p.tables e below G (T6.setTop (mkF m 393 #[iv vA, iv vB, iv vC, .val (.long vD), .second, iv vW, iv vE, iv nv, iv pv, iv vv, rv b1, iv lenv, iv kkv, rv b2, iv (1 : Int32), iv (1 : Int32), iv rq, un] [(.int (1 : Int32))]))
            refine Ends.go (fun _ => XS.istore X6.here hx rfl (hb hby at_393) rfl (l' := #[iv vA, iv vB, iv vC, .val (.long vD), .second, iv vW, iv vE, iv nv, iv pv, iv vv, rv b1, iv lenv, iv kkv, rv b2, iv (1 : Int32), iv (1 : Int32), iv rq, iv (1 : Int32)]) rfl) ?_
            show Ends p.tables e below G (T6.setTop (mkF m 395 #[iv vA, iv vB, iv vC, .val (.long vD), .second, iv vW, iv vE, iv nv, iv pv, iv vv, rv b1, iv lenv, iv kkv, rv b2, iv (1 : Int32), iv (1 : Int32), iv rq, iv (1 : Int32)] []))
            exact at395 _ (Or.inl ⟨rfl, own_f2.mpr ⟨k3, by rw [if_neg (by omega)]; exact (own_m16 hv).mpr k4⟩⟩)
          · refine Ends.go (fun _ => XS.ifYes X6.here hx rfl (pc0 := 385) (pc' := 392) rfl (hb hby at_385) rfl ((if0 _ _).trans (feq (fun z => k4 ((own_eqn hv16 (b := 0) rfl).mp z) : ¬ ((vv - (vv / (16 : Int32)) * (16 : Int32)) = (0 : Int32)))).2) (by decide) (by decide)) ?_
            show Ends p.tables e below G (T6.setTop (mkF m 392 #[iv vA, iv vB, iv vC, .val (.long vD), .second, iv vW, iv vE, iv nv, iv pv, iv vv, rv b1, iv lenv, iv kkv, rv b2, iv (1 : Int32), iv (1 : Int32), iv rq, un] []))
            refine Ends.go (fun _ => XS.iconst X6.here hx rfl (hb hby at_392)) ?_
            show Ends p.tables e below G (T6.setTop (mkF m 393 #[iv vA, iv vB, iv vC, .val (.long vD), .second, iv vW, iv vE, iv nv, iv pv, iv vv, rv b1, iv lenv, iv kkv, rv b2, iv (1 : Int32), iv (1 : Int32), iv rq, un] [(.int (0 : Int32))]))
            refine Ends.go (fun _ => XS.istore X6.here hx rfl (hb hby at_393) rfl (l' := #[iv vA, iv vB, iv vC, .val (.long vD), .second, iv vW, iv vE, iv nv, iv pv, iv vv, rv b1, iv lenv, iv kkv, rv b2, iv (1 : Int32), iv (1 : Int32), iv rq, iv (0 : Int32)]) rfl) ?_
            show Ends p.tables e below G (T6.setTop (mkF m 395 #[iv vA, iv vB, iv vC, .val (.long vD), .second, iv vW, iv vE, iv nv, iv pv, iv vv, rv b1, iv lenv, iv kkv, rv b2, iv (1 : Int32), iv (1 : Int32), iv rq, iv (0 : Int32)] []))
            exact at395 _ (Or.inr ⟨rfl, fun z => k4 ((own_m16 hv).mp (by have z2 := (own_f2.mp z).2; rw [if_neg (by omega)] at z2; exact z2))⟩)
        · refine Ends.go (fun _ => XS.icmpYes X6.here hx rfl (pc0 := 377) (pc' := 392) rfl (hb hby at_377) rfl (feq (fun z => k3 ((own_eqn hr4 (b := 2) rfl).mp z) : ¬ ((nv - (nv / (4 : Int32)) * (4 : Int32)) = (2 : Int32)))).2 (by decide) (by decide)) ?_
          show Ends p.tables e below G (T6.setTop (mkF m 392 #[iv vA, iv vB, iv vC, .val (.long vD), .second, iv vW, iv vE, iv nv, iv pv, iv vv, rv b1, iv lenv, iv kkv, rv b2, iv (1 : Int32), iv (1 : Int32), iv rq, un] []))
          refine Ends.go (fun _ => XS.iconst X6.here hx rfl (hb hby at_392)) ?_
          show Ends p.tables e below G (T6.setTop (mkF m 393 #[iv vA, iv vB, iv vC, .val (.long vD), .second, iv vW, iv vE, iv nv, iv pv, iv vv, rv b1, iv lenv, iv kkv, rv b2, iv (1 : Int32), iv (1 : Int32), iv rq, un] [(.int (0 : Int32))]))
          refine Ends.go (fun _ => XS.istore X6.here hx rfl (hb hby at_393) rfl (l' := #[iv vA, iv vB, iv vC, .val (.long vD), .second, iv vW, iv vE, iv nv, iv pv, iv vv, rv b1, iv lenv, iv kkv, rv b2, iv (1 : Int32), iv (1 : Int32), iv rq, iv (0 : Int32)]) rfl) ?_
          show Ends p.tables e below G (T6.setTop (mkF m 395 #[iv vA, iv vB, iv vC, .val (.long vD), .second, iv vW, iv vE, iv nv, iv pv, iv vv, rv b1, iv lenv, iv kkv, rv b2, iv (1 : Int32), iv (1 : Int32), iv rq, iv (0 : Int32)] []))
          exact at395 _ (Or.inr ⟨rfl, fun z => k3 (own_f2.mp z).1⟩)
  have at242 : ∀ (T9 : State) (L9 : List Loc) (h9 : Heap) (F : Nat → Int32) (len : Nat) (lenv : Int32), Stand p l e room_1 s m #[(.int vA), (.int vB), (.int vC), (.long vD), (.int vW), (.int vE)] below meth c T9 L9 (0 + 1) (0 + 12) → T9.heap = h9 → Fr n0 L9 → n0 ≤ h9.size → AF Z h9 b1 .byte 12 (fun k => .int (F k)) → AF Z h9 va .byte 256 (fun k => .int (VT k)) → Sta Z h9 "com/example/belge/belge/SimpleTypes$Base64Check" "VALUES" "[B" (.ref va) → own_tk VT F (0, 0, 0) 0 len = some (n, pn, (if n = 0 then (0 : Int32) else vv)) → lenv.toInt = (len : Int) → len ≤ 11 → Ends p.tables e below G (T9.setTop (mkF m 242 #[iv vA, iv vB, iv vC, .val (.long vD), .second, iv vW, iv vE, iv nv, iv pv, iv vv, rv b1, iv lenv, un, un, un, un, un, un] [])) := by
    intro T9 L9 h9 F len lenv X9 e9 N9 sz9 V9 U9 S9 hT hlen hl12
    refine Ends.go (fun _ => XS.iload X9.here hx rfl (hb hby at_242) rfl) ?_
    show Ends p.tables e below G (T9.setTop (mkF m 244 #[iv vA, iv vB, iv vC, .val (.long vD), .second, iv vW, iv vE, iv nv, iv pv, iv vv, rv b1, iv lenv, un, un, un, un, un, un] [(.int vW)]))
    refine Ends.go (fun _ => XS.bipush X9.here hx rfl (hb hby at_244)) ?_
    show Ends p.tables e below G (T9.setTop (mkF m 246 #[iv vA, iv vB, iv vC, .val (.long vD), .second, iv vW, iv vE, iv nv, iv pv, iv vv, rv b1, iv lenv, un, un, un, un, un, un] [(.int (64 : Int32)), (.int vW)]))
    refine Ends.go (fun _ => XS.iand X9.here hx rfl (hb hby at_246) rfl) ?_
    show Ends p.tables e below G (T9.setTop (mkF m 247 #[iv vA, iv vB, iv vC, .val (.long vD), .second, iv vW, iv vE, iv nv, iv pv, iv vv, rv b1, iv lenv, un, un, un, un, un, un] [(.int (vW &&& (64 : Int32)))]))
    by_cases km : (vW &&& (64 : Int32)) = (0 : Int32)
    · refine Ends.go (fun _ => XS.ifYes X9.here hx rfl (pc0 := 247) (pc' := 266) rfl (hb hby at_247) rfl ((if0 _ _).trans (teq (km : (vW &&& (64 : Int32)) = (0 : Int32))).1) (by decide) (by decide)) ?_
      show Ends p.tables e below G (T9.setTop (mkF m 266 #[iv vA, iv vB, iv vC, .val (.long vD), .second, iv vW, iv vE, iv nv, iv pv, iv vv, rv b1, iv lenv, un, un, un, un, un, un] []))
      exact at266 _ _ _ F len _ X9 e9 N9 sz9 V9 U9 S9 hT hlen (by omega)
    · refine Ends.go (fun _ => XS.ifNo X9.here hx rfl (hb hby at_247) rfl ((if0 _ _).trans (feq (km : ¬ ((vW &&& (64 : Int32)) = (0 : Int32)))).1)) ?_
      show Ends p.tables e below G (T9.setTop (mkF m 250 #[iv vA, iv vB, iv vC, .val (.long vD), .second, iv vW, iv vE, iv nv, iv pv, iv vv, rv b1, iv lenv, un, un, un, un, un, un] []))
      refine Ends.go (fun _ => XS.aload X9.here hx rfl (hb hby at_250) rfl rfl) ?_
      show Ends p.tables e below G (T9.setTop (mkF m 252 #[iv vA, iv vB, iv vC, .val (.long vD), .second, iv vW, iv vE, iv nv, iv pv, iv vv, rv b1, iv lenv, un, un, un, un, un, un] [(.ref b1)]))
      refine Ends.go (fun _ => XS.iload X9.here hx rfl (hb hby at_252) rfl) ?_
      show Ends p.tables e below G (T9.setTop (mkF m 254 #[iv vA, iv vB, iv vC, .val (.long vD), .second, iv vW, iv vE, iv nv, iv pv, iv vv, rv b1, iv lenv, un, un, un, un, un, un] [(.int lenv), (.ref b1)]))
      refine Ends.go (fun _ => XS.iinc X9.here hx rfl (hb hby at_254) rfl (l' := #[iv vA, iv vB, iv vC, .val (.long vD), .second, iv vW, iv vE, iv nv, iv pv, iv vv, rv b1, iv (lenv + (1 : Int32)), un, un, un, un, un, un]) rfl) ?_
      show Ends p.tables e below G (T9.setTop (mkF m 257 #[iv vA, iv vB, iv vC, .val (.long vD), .second, iv vW, iv vE, iv nv, iv pv, iv vv, rv b1, iv (lenv + (1 : Int32)), un, un, un, un, un, un] [(.int lenv), (.ref b1)]))
      refine Ends.go (fun _ => XS.iload X9.here hx rfl (hb hby at_257) rfl) ?_
      show Ends p.tables e below G (T9.setTop (mkF m 259 #[iv vA, iv vB, iv vC, .val (.long vD), .second, iv vW, iv vE, iv nv, iv pv, iv vv, rv b1, iv (lenv + (1 : Int32)), un, un, un, un, un, un] [(.int vW), (.int lenv), (.ref b1)]))
      refine Ends.go (fun _ => XS.bipush X9.here hx rfl (hb hby at_259)) ?_
      show Ends p.tables e below G (T9.setTop (mkF m 261 #[iv vA, iv vB, iv vC, .val (.long vD), .second, iv vW, iv vE, iv nv, iv pv, iv vv, rv b1, iv (lenv + (1 : Int32)), un, un, un, un, un, un] [(.int (7 : Int32)), (.int vW), (.int lenv), (.ref b1)]))
      refine Ends.go (fun _ => XS.iushr X9.here hx rfl (hb hby at_261) rfl) ?_
      show Ends p.tables e below G (T9.setTop (mkF m 262 #[iv vA, iv vB, iv vC, .val (.long vD), .second, iv vW, iv vE, iv nv, iv pv, iv vv, rv b1, iv (lenv + (1 : Int32)), un, un, un, un, un, un] [(.int ((vW.toUInt32 >>> ((7 : Int32) &&& 31).toUInt32).toInt32)), (.int lenv), (.ref b1)]))
      obtain ⟨_, _, ⟨T7, L7, k7, n7⟩, -, X7, ⟨Lc7, hQ7, l7, y7, z7⟩, st7⟩ := Jvm.LawKit.callS X9 hx (y := (⟨"com/example/belge/belge/Base64CheckIsCompletePinLaw", "space", "(I)B"⟩ : MethodName)) hown (mvT hZ (hw _ (List.mem_of_getElem? (i := 33) rfl))) (mvT hZ (hw _ (List.mem_of_getElem? (i := 34) rfl))) (mvT hZ (hw _ (List.mem_of_getElem? (i := 27) rfl))) (mvT hZ (hw _ (List.mem_of_getElem? (i := 35) rfl))) (by decide) (backOf (W := 2) (rm7 l Z a0 hw [] ((vW.toUInt32 >>> ((7 : Int32) &&& 31).toUInt32).toInt32) h9 n0 sz9) hZ (hw _ (List.mem_of_getElem? (i := 35) rfl)) (hw _ (List.mem_of_getElem? (i := 27) rfl)) (by decide) (by decide)) (g := (mkF m 262 #[iv vA, iv vB, iv vC, .val (.long vD), .second, iv vW, iv vE, iv nv, iv pv, iv vv, rv b1, iv (lenv + (1 : Int32)), un, un, un, un, un, un] [(.int ((vW.toUInt32 >>> ((7 : Int32) &&& 31).toUInt32).toInt32)), (.int lenv), (.ref b1)])) rfl (by rw [hml]; rfl) (argsL := [(.int ((vW.toUInt32 >>> ((7 : Int32) &&& 31).toUInt32).toInt32))]) (rest := [(.int lenv), (.ref b1)]) (lenOf pd_0 rfl) rfl (by show 2 * 0 + _ ≤ _; exact Nat.le_of_eq rfl) (hb hby at_262) (fun _ _ => ⟨rfl, e9, (by decide : (0 + 1) + 0 ≤ _), (by decide : (0 + 12) + 0 ≤ _)⟩)
      dsimp only [Pt.U, Pt.locs, Pt.cells, Pt.slots] at X7 l7 y7 z7 st7 hQ7
      subst l7 y7 z7
      obtain ⟨rs, rfl, N7q, e7, hrs⟩ := hQ7
      have N7 := Fr.app N9 N7q
      refine Ends.go (fun _ => st7 _) ?_
      show Ends p.tables e below G (T7.setTop (mkF m 265 #[iv vA, iv vB, iv vC, .val (.long vD), .second, iv vW, iv vE, iv nv, iv pv, iv vv, rv b1, iv (lenv + (1 : Int32)), un, un, un, un, un, un] [(.int rs), (.int lenv), (.ref b1)]))
      obtain ⟨T8, h8, X8, e8, W8, V8, st8⟩ := AF.stB V9 X7 hx hZ e7 (j := lenv) (i := len) hlen (by omega) (g := (mkF m 265 #[iv vA, iv vB, iv vC, .val (.long vD), .second, iv vW, iv vE, iv nv, iv pv, iv vv, rv b1, iv (lenv + (1 : Int32)), un, un, un, un, un, un] [(.int rs), (.int lenv), (.ref b1)])) rfl rfl (hb hby at_265)
      have f8_V_va := AF.other U9 W8 ne_va_b1
      have f8_T_com_example_belge_belge_SimpleTypes_Base64Check_VALUES := S9.wr W8
      have sz8 := Nat.le_trans sz9 (Nat.le_of_eq W8.size.symm)
      have N8 := Fr.snoc X8 N7 g_b1
      refine Ends.go (fun _ => st8 _) ?_
      show Ends p.tables e below G (T8.setTop (mkF m 266 #[iv vA, iv vB, iv vC, .val (.long vD), .second, iv vW, iv vE, iv nv, iv pv, iv vv, rv b1, iv (lenv + (1 : Int32)), un, un, un, un, un, un] []))
      have hns : nar .byte rs = rs := by rcases hrs with rfl | rfl | rfl | rfl <;> rfl
      exact at266 _ _ _ (own_up F len (nar .byte rs)) (len + 1) _ X8 e8 N8 sz8 (AF.congr V8 (fun k hk => by simp only [own_up]; split <;> rfl)) f8_V_va f8_T_com_example_belge_belge_SimpleTypes_Base64Check_VALUES (own_tk_snoc hT (by rw [hns]; exact own_stp_sp hrs (own_vsp hV hrs))) (own_add hlen (b := 1) (y := 1) rfl (by omega)) (by omega)
  have at232 : ∀ (T9 : State) (L9 : List Loc) (h9 : Heap) (F : Nat → Int32) (len : Nat) (lenv : Int32), Stand p l e room_1 s m #[(.int vA), (.int vB), (.int vC), (.long vD), (.int vW), (.int vE)] below meth c T9 L9 (0 + 1) (0 + 12) → T9.heap = h9 → Fr n0 L9 → n0 ≤ h9.size → AF Z h9 b1 .byte 12 (fun k => .int (F k)) → AF Z h9 va .byte 256 (fun k => .int (VT k)) → Sta Z h9 "com/example/belge/belge/SimpleTypes$Base64Check" "VALUES" "[B" (.ref va) → own_tk VT F (0, 0, 0) 0 len = some (n, 1, (if n = 0 then (0 : Int32) else vv)) → lenv.toInt = (len : Int) → len ≤ 10 → pn = 2 → Ends p.tables e below G (T9.setTop (mkF m 232 #[iv vA, iv vB, iv vC, .val (.long vD), .second, iv vW, iv vE, iv nv, iv pv, iv vv, rv b1, iv lenv, un, un, un, un, un, un] [])) := by
    intro T9 L9 h9 F len lenv X9 e9 N9 sz9 V9 U9 S9 hT hlen hl12 hp2e
    refine Ends.go (fun _ => XS.aload X9.here hx rfl (hb hby at_232) rfl rfl) ?_
    show Ends p.tables e below G (T9.setTop (mkF m 234 #[iv vA, iv vB, iv vC, .val (.long vD), .second, iv vW, iv vE, iv nv, iv pv, iv vv, rv b1, iv lenv, un, un, un, un, un, un] [(.ref b1)]))
    refine Ends.go (fun _ => XS.iload X9.here hx rfl (hb hby at_234) rfl) ?_
    show Ends p.tables e below G (T9.setTop (mkF m 236 #[iv vA, iv vB, iv vC, .val (.long vD), .second, iv vW, iv vE, iv nv, iv pv, iv vv, rv b1, iv lenv, un, un, un, un, un, un] [(.int lenv), (.ref b1)]))
    refine Ends.go (fun _ => XS.iinc X9.here hx rfl (hb hby at_236) rfl (l' := #[iv vA, iv vB, iv vC, .val (.long vD), .second, iv vW, iv vE, iv nv, iv pv, iv vv, rv b1, iv (lenv + (1 : Int32)), un, un, un, un, un, un]) rfl) ?_
    show Ends p.tables e below G (T9.setTop (mkF m 239 #[iv vA, iv vB, iv vC, .val (.long vD), .second, iv vW, iv vE, iv nv, iv pv, iv vv, rv b1, iv (lenv + (1 : Int32)), un, un, un, un, un, un] [(.int lenv), (.ref b1)]))
    refine Ends.go (fun _ => XS.bipush X9.here hx rfl (hb hby at_239)) ?_
    show Ends p.tables e below G (T9.setTop (mkF m 241 #[iv vA, iv vB, iv vC, .val (.long vD), .second, iv vW, iv vE, iv nv, iv pv, iv vv, rv b1, iv (lenv + (1 : Int32)), un, un, un, un, un, un] [(.int (61 : Int32)), (.int lenv), (.ref b1)]))
    obtain ⟨T9, h9, X9, e9, W9, V9, st9⟩ := AF.stB V9 X9 hx hZ e9 (j := lenv) (i := len) hlen (by omega) (g := (mkF m 241 #[iv vA, iv vB, iv vC, .val (.long vD), .second, iv vW, iv vE, iv nv, iv pv, iv vv, rv b1, iv (lenv + (1 : Int32)), un, un, un, un, un, un] [(.int (61 : Int32)), (.int lenv), (.ref b1)])) rfl rfl (hb hby at_241)
    have f9_V_va := AF.other U9 W9 ne_va_b1
    have f9_T_com_example_belge_belge_SimpleTypes_Base64Check_VALUES := S9.wr W9
    have sz9 := Nat.le_trans sz9 (Nat.le_of_eq W9.size.symm)
    have N9 := Fr.snoc X9 N9 g_b1
    refine Ends.go (fun _ => st9 _) ?_
    show Ends p.tables e below G (T9.setTop (mkF m 242 #[iv vA, iv vB, iv vC, .val (.long vD), .second, iv vW, iv vE, iv nv, iv pv, iv vv, rv b1, iv (lenv + (1 : Int32)), un, un, un, un, un, un] []))
    subst hp2e
    exact at242 _ _ _ (own_up F len (nar .byte 61)) (len + 1) _ X9 e9 N9 sz9 (AF.congr V9 (fun k hk => by simp only [own_up]; split <;> rfl)) f9_V_va f9_T_com_example_belge_belge_SimpleTypes_Base64Check_VALUES (own_tk_snoc hT (own_stp_eq (by decide) hv61)) (own_add hlen (b := 1) (y := 1) rfl (by omega)) (by omega)
  have at203 : ∀ (T9 : State) (L9 : List Loc) (h9 : Heap) (F : Nat → Int32) (len : Nat) (lenv : Int32), Stand p l e room_1 s m #[(.int vA), (.int vB), (.int vC), (.long vD), (.int vW), (.int vE)] below meth c T9 L9 (0 + 1) (0 + 12) → T9.heap = h9 → Fr n0 L9 → n0 ≤ h9.size → AF Z h9 b1 .byte 12 (fun k => .int (F k)) → AF Z h9 va .byte 256 (fun k => .int (VT k)) → Sta Z h9 "com/example/belge/belge/SimpleTypes$Base64Check" "VALUES" "[B" (.ref va) → own_tk VT F (0, 0, 0) 0 len = some (n, (min pn 1), (if n = 0 then (0 : Int32) else vv)) → lenv.toInt = (len : Int) → len ≤ 9 → Ends p.tables e below G (T9.setTop (mkF m 203 #[iv vA, iv vB, iv vC, .val (.long vD), .second, iv vW, iv vE, iv nv, iv pv, iv vv, rv b1, iv lenv, un, un, un, un, un, un] [])) := by
    intro T9 L9 h9 F len lenv X9 e9 N9 sz9 V9 U9 S9 hT hlen hl12
    refine Ends.go (fun _ => XS.iload X9.here hx rfl (hb hby at_203) rfl) ?_
    show Ends p.tables e below G (T9.setTop (mkF m 205 #[iv vA, iv vB, iv vC, .val (.long vD), .second, iv vW, iv vE, iv nv, iv pv, iv vv, rv b1, iv lenv, un, un, un, un, un, un] [(.int pv)]))
    refine Ends.go (fun _ => XS.iconst X9.here hx rfl (hb hby at_205)) ?_
    show Ends p.tables e below G (T9.setTop (mkF m 206 #[iv vA, iv vB, iv vC, .val (.long vD), .second, iv vW, iv vE, iv nv, iv pv, iv vv, rv b1, iv lenv, un, un, un, un, un, un] [(.int (2 : Int32)), (.int pv)]))
    by_cases k0 : pn < 2
    · refine Ends.go (fun _ => XS.icmpYes X9.here hx rfl (pc0 := 206) (pc' := 242) rfl (hb hby at_206) rfl (tlt ((own_lt hp (b := 2) rfl).mpr k0 : pv < (2 : Int32))).1 (by decide) (by decide)) ?_
      show Ends p.tables e below G (T9.setTop (mkF m 242 #[iv vA, iv vB, iv vC, .val (.long vD), .second, iv vW, iv vE, iv nv, iv pv, iv vv, rv b1, iv lenv, un, un, un, un, un, un] []))
      exact at242 _ _ _ F len _ X9 e9 N9 sz9 V9 U9 S9 (by rw [hT]; rw [show min pn 1 = pn by omega]) hlen (by omega)
    · have hp2 : pn = 2 := by omega
      rw [show min pn 1 = 1 by omega] at hT
      refine Ends.go (fun _ => XS.icmpNo X9.here hx rfl (hb hby at_206) rfl (flt (fun z => k0 ((own_lt hp (b := 2) rfl).mp z) : ¬ (pv < (2 : Int32)))).1) ?_
      show Ends p.tables e below G (T9.setTop (mkF m 209 #[iv vA, iv vB, iv vC, .val (.long vD), .second, iv vW, iv vE, iv nv, iv pv, iv vv, rv b1, iv lenv, un, un, un, un, un, un] []))
      refine Ends.go (fun _ => XS.iload X9.here hx rfl (hb hby at_209) rfl) ?_
      show Ends p.tables e below G (T9.setTop (mkF m 211 #[iv vA, iv vB, iv vC, .val (.long vD), .second, iv vW, iv vE, iv nv, iv pv, iv vv, rv b1, iv lenv, un, un, un, un, un, un] [(.int vW)]))
      refine Ends.go (fun _ => XS.bipush X9.here hx rfl (hb hby at_211)) ?_
      show Ends p.tables e below G (T9.setTop (mkF m 213 #[iv vA, iv vB, iv vC, .val (.long vD), .second, iv vW, iv vE, iv nv, iv pv, iv vv, rv b1, iv lenv, un, un, un, un, un, un] [(.int (8 : Int32)), (.int vW)]))
      refine Ends.go (fun _ => XS.iand X9.here hx rfl (hb hby at_213) rfl) ?_
      show Ends p.tables e below G (T9.setTop (mkF m 214 #[iv vA, iv vB, iv vC, .val (.long vD), .second, iv vW, iv vE, iv nv, iv pv, iv vv, rv b1, iv lenv, un, un, un, un, un, un] [(.int (vW &&& (8 : Int32)))]))
      by_cases km : (vW &&& (8 : Int32)) = (0 : Int32)
      · refine Ends.go (fun _ => XS.ifYes X9.here hx rfl (pc0 := 214) (pc' := 232) rfl (hb hby at_214) rfl ((if0 _ _).trans (teq (km : (vW &&& (8 : Int32)) = (0 : Int32))).1) (by decide) (by decide)) ?_
        show Ends p.tables e below G (T9.setTop (mkF m 232 #[iv vA, iv vB, iv vC, .val (.long vD), .second, iv vW, iv vE, iv nv, iv pv, iv vv, rv b1, iv lenv, un, un, un, un, un, un] []))
        exact at232 _ _ _ F len _ X9 e9 N9 sz9 V9 U9 S9 hT hlen (by omega) hp2
      · refine Ends.go (fun _ => XS.ifNo X9.here hx rfl (hb hby at_214) rfl ((if0 _ _).trans (feq (km : ¬ ((vW &&& (8 : Int32)) = (0 : Int32)))).1)) ?_
        show Ends p.tables e below G (T9.setTop (mkF m 217 #[iv vA, iv vB, iv vC, .val (.long vD), .second, iv vW, iv vE, iv nv, iv pv, iv vv, rv b1, iv lenv, un, un, un, un, un, un] []))
        refine Ends.go (fun _ => XS.aload X9.here hx rfl (hb hby at_217) rfl rfl) ?_
        show Ends p.tables e below G (T9.setTop (mkF m 219 #[iv vA, iv vB, iv vC, .val (.long vD), .second, iv vW, iv vE, iv nv, iv pv, iv vv, rv b1, iv lenv, un, un, un, un, un, un] [(.ref b1)]))
        refine Ends.go (fun _ => XS.iload X9.here hx rfl (hb hby at_219) rfl) ?_
        show Ends p.tables e below G (T9.setTop (mkF m 221 #[iv vA, iv vB, iv vC, .val (.long vD), .second, iv vW, iv vE, iv nv, iv pv, iv vv, rv b1, iv lenv, un, un, un, un, un, un] [(.int lenv), (.ref b1)]))
        refine Ends.go (fun _ => XS.iinc X9.here hx rfl (hb hby at_221) rfl (l' := #[iv vA, iv vB, iv vC, .val (.long vD), .second, iv vW, iv vE, iv nv, iv pv, iv vv, rv b1, iv (lenv + (1 : Int32)), un, un, un, un, un, un]) rfl) ?_
        show Ends p.tables e below G (T9.setTop (mkF m 224 #[iv vA, iv vB, iv vC, .val (.long vD), .second, iv vW, iv vE, iv nv, iv pv, iv vv, rv b1, iv (lenv + (1 : Int32)), un, un, un, un, un, un] [(.int lenv), (.ref b1)]))
        refine Ends.go (fun _ => XS.iload X9.here hx rfl (hb hby at_224) rfl) ?_
        show Ends p.tables e below G (T9.setTop (mkF m 226 #[iv vA, iv vB, iv vC, .val (.long vD), .second, iv vW, iv vE, iv nv, iv pv, iv vv, rv b1, iv (lenv + (1 : Int32)), un, un, un, un, un, un] [(.int vW), (.int lenv), (.ref b1)]))
        refine Ends.go (fun _ => XS.iconst X9.here hx rfl (hb hby at_226)) ?_
        show Ends p.tables e below G (T9.setTop (mkF m 227 #[iv vA, iv vB, iv vC, .val (.long vD), .second, iv vW, iv vE, iv nv, iv pv, iv vv, rv b1, iv (lenv + (1 : Int32)), un, un, un, un, un, un] [(.int (4 : Int32)), (.int vW), (.int lenv), (.ref b1)]))
        refine Ends.go (fun _ => XS.iushr X9.here hx rfl (hb hby at_227) rfl) ?_
        show Ends p.tables e below G (T9.setTop (mkF m 228 #[iv vA, iv vB, iv vC, .val (.long vD), .second, iv vW, iv vE, iv nv, iv pv, iv vv, rv b1, iv (lenv + (1 : Int32)), un, un, un, un, un, un] [(.int ((vW.toUInt32 >>> ((4 : Int32) &&& 31).toUInt32).toInt32)), (.int lenv), (.ref b1)]))
        obtain ⟨_, _, ⟨T10, L10, k10, n10⟩, -, X10, ⟨Lc10, hQ10, l10, y10, z10⟩, st10⟩ := Jvm.LawKit.callS X9 hx (y := (⟨"com/example/belge/belge/Base64CheckIsCompletePinLaw", "space", "(I)B"⟩ : MethodName)) hown (mvT hZ (hw _ (List.mem_of_getElem? (i := 33) rfl))) (mvT hZ (hw _ (List.mem_of_getElem? (i := 34) rfl))) (mvT hZ (hw _ (List.mem_of_getElem? (i := 27) rfl))) (mvT hZ (hw _ (List.mem_of_getElem? (i := 35) rfl))) (by decide) (backOf (W := 2) (rm7 l Z a0 hw [] ((vW.toUInt32 >>> ((4 : Int32) &&& 31).toUInt32).toInt32) h9 n0 sz9) hZ (hw _ (List.mem_of_getElem? (i := 35) rfl)) (hw _ (List.mem_of_getElem? (i := 27) rfl)) (by decide) (by decide)) (g := (mkF m 228 #[iv vA, iv vB, iv vC, .val (.long vD), .second, iv vW, iv vE, iv nv, iv pv, iv vv, rv b1, iv (lenv + (1 : Int32)), un, un, un, un, un, un] [(.int ((vW.toUInt32 >>> ((4 : Int32) &&& 31).toUInt32).toInt32)), (.int lenv), (.ref b1)])) rfl (by rw [hml]; rfl) (argsL := [(.int ((vW.toUInt32 >>> ((4 : Int32) &&& 31).toUInt32).toInt32))]) (rest := [(.int lenv), (.ref b1)]) (lenOf pd_0 rfl) rfl (by show 2 * 0 + _ ≤ _; exact Nat.le_of_eq rfl) (hb hby at_228) (fun _ _ => ⟨rfl, e9, (by decide : (0 + 1) + 0 ≤ _), (by decide : (0 + 12) + 0 ≤ _)⟩)
        dsimp only [Pt.U, Pt.locs, Pt.cells, Pt.slots] at X10 l10 y10 z10 st10 hQ10
        subst l10 y10 z10
        obtain ⟨rs, rfl, N10q, e10, hrs⟩ := hQ10
        have N10 := Fr.app N9 N10q
        refine Ends.go (fun _ => st10 _) ?_
        show Ends p.tables e below G (T10.setTop (mkF m 231 #[iv vA, iv vB, iv vC, .val (.long vD), .second, iv vW, iv vE, iv nv, iv pv, iv vv, rv b1, iv (lenv + (1 : Int32)), un, un, un, un, un, un] [(.int rs), (.int lenv), (.ref b1)]))
        obtain ⟨T11, h11, X11, e11, W11, V11, st11⟩ := AF.stB V9 X10 hx hZ e10 (j := lenv) (i := len) hlen (by omega) (g := (mkF m 231 #[iv vA, iv vB, iv vC, .val (.long vD), .second, iv vW, iv vE, iv nv, iv pv, iv vv, rv b1, iv (lenv + (1 : Int32)), un, un, un, un, un, un] [(.int rs), (.int lenv), (.ref b1)])) rfl rfl (hb hby at_231)
        have f11_V_va := AF.other U9 W11 ne_va_b1
        have f11_T_com_example_belge_belge_SimpleTypes_Base64Check_VALUES := S9.wr W11
        have sz11 := Nat.le_trans sz9 (Nat.le_of_eq W11.size.symm)
        have N11 := Fr.snoc X11 N10 g_b1
        refine Ends.go (fun _ => st11 _) ?_
        show Ends p.tables e below G (T11.setTop (mkF m 232 #[iv vA, iv vB, iv vC, .val (.long vD), .second, iv vW, iv vE, iv nv, iv pv, iv vv, rv b1, iv (lenv + (1 : Int32)), un, un, un, un, un, un] []))
        have hns : nar .byte rs = rs := by rcases hrs with rfl | rfl | rfl | rfl <;> rfl
        exact at232 _ _ _ (own_up F len (nar .byte rs)) (len + 1) _ X11 e11 N11 sz11 (AF.congr V11 (fun k hk => by simp only [own_up]; split <;> rfl)) f11_V_va f11_T_com_example_belge_belge_SimpleTypes_Base64Check_VALUES (own_tk_snoc hT (by rw [hns]; exact own_stp_sp hrs (own_vsp hV hrs))) (own_add hlen (b := 1) (y := 1) rfl (by omega)) (by omega) hp2
  have at187 : ∀ (T9 : State) (L9 : List Loc) (h9 : Heap) (F : Nat → Int32) (len : Nat) (lenv : Int32), Stand p l e room_1 s m #[(.int vA), (.int vB), (.int vC), (.long vD), (.int vW), (.int vE)] below meth c T9 L9 (0 + 1) (0 + 12) → T9.heap = h9 → Fr n0 L9 → n0 ≤ h9.size → AF Z h9 b1 .byte 12 (fun k => .int (F k)) → AF Z h9 va .byte 256 (fun k => .int (VT k)) → Sta Z h9 "com/example/belge/belge/SimpleTypes$Base64Check" "VALUES" "[B" (.ref va) → own_tk VT F (0, 0, 0) 0 len = some (n, 0, (if n = 0 then (0 : Int32) else vv)) → lenv.toInt = (len : Int) → len ≤ 8 → Ends p.tables e below G (T9.setTop (mkF m 187 #[iv vA, iv vB, iv vC, .val (.long vD), .second, iv vW, iv vE, iv nv, iv pv, iv vv, rv b1, iv lenv, un, un, un, un, un, un] [])) := by
    intro T9 L9 h9 F len lenv X9 e9 N9 sz9 V9 U9 S9 hT hlen hl12
    refine Ends.go (fun _ => XS.iload X9.here hx rfl (hb hby at_187) rfl) ?_
    show Ends p.tables e below G (T9.setTop (mkF m 189 #[iv vA, iv vB, iv vC, .val (.long vD), .second, iv vW, iv vE, iv nv, iv pv, iv vv, rv b1, iv lenv, un, un, un, un, un, un] [(.int pv)]))
    refine Ends.go (fun _ => XS.iconst X9.here hx rfl (hb hby at_189)) ?_
    show Ends p.tables e below G (T9.setTop (mkF m 190 #[iv vA, iv vB, iv vC, .val (.long vD), .second, iv vW, iv vE, iv nv, iv pv, iv vv, rv b1, iv lenv, un, un, un, un, un, un] [(.int (1 : Int32)), (.int pv)]))
    by_cases k0 : pn < 1
    · refine Ends.go (fun _ => XS.icmpYes X9.here hx rfl (pc0 := 190) (pc' := 203) rfl (hb hby at_190) rfl (tlt ((own_lt hp (b := 1) rfl).mpr k0 : pv < (1 : Int32))).1 (by decide) (by decide)) ?_
      show Ends p.tables e below G (T9.setTop (mkF m 203 #[iv vA, iv vB, iv vC, .val (.long vD), .second, iv vW, iv vE, iv nv, iv pv, iv vv, rv b1, iv lenv, un, un, un, un, un, un] []))
      exact at203 _ _ _ F len _ X9 e9 N9 sz9 V9 U9 S9 (by rw [hT]; rw [show min pn 1 = 0 by omega]) hlen (by omega)
    · refine Ends.go (fun _ => XS.icmpNo X9.here hx rfl (hb hby at_190) rfl (flt (fun z => k0 ((own_lt hp (b := 1) rfl).mp z) : ¬ (pv < (1 : Int32)))).1) ?_
      show Ends p.tables e below G (T9.setTop (mkF m 193 #[iv vA, iv vB, iv vC, .val (.long vD), .second, iv vW, iv vE, iv nv, iv pv, iv vv, rv b1, iv lenv, un, un, un, un, un, un] []))
      refine Ends.go (fun _ => XS.aload X9.here hx rfl (hb hby at_193) rfl rfl) ?_
      show Ends p.tables e below G (T9.setTop (mkF m 195 #[iv vA, iv vB, iv vC, .val (.long vD), .second, iv vW, iv vE, iv nv, iv pv, iv vv, rv b1, iv lenv, un, un, un, un, un, un] [(.ref b1)]))
      refine Ends.go (fun _ => XS.iload X9.here hx rfl (hb hby at_195) rfl) ?_
      show Ends p.tables e below G (T9.setTop (mkF m 197 #[iv vA, iv vB, iv vC, .val (.long vD), .second, iv vW, iv vE, iv nv, iv pv, iv vv, rv b1, iv lenv, un, un, un, un, un, un] [(.int lenv), (.ref b1)]))
      refine Ends.go (fun _ => XS.iinc X9.here hx rfl (hb hby at_197) rfl (l' := #[iv vA, iv vB, iv vC, .val (.long vD), .second, iv vW, iv vE, iv nv, iv pv, iv vv, rv b1, iv (lenv + (1 : Int32)), un, un, un, un, un, un]) rfl) ?_
      show Ends p.tables e below G (T9.setTop (mkF m 200 #[iv vA, iv vB, iv vC, .val (.long vD), .second, iv vW, iv vE, iv nv, iv pv, iv vv, rv b1, iv (lenv + (1 : Int32)), un, un, un, un, un, un] [(.int lenv), (.ref b1)]))
      refine Ends.go (fun _ => XS.bipush X9.here hx rfl (hb hby at_200)) ?_
      show Ends p.tables e below G (T9.setTop (mkF m 202 #[iv vA, iv vB, iv vC, .val (.long vD), .second, iv vW, iv vE, iv nv, iv pv, iv vv, rv b1, iv (lenv + (1 : Int32)), un, un, un, un, un, un] [(.int (61 : Int32)), (.int lenv), (.ref b1)]))
      obtain ⟨T12, h12, X12, e12, W12, V12, st12⟩ := AF.stB V9 X9 hx hZ e9 (j := lenv) (i := len) hlen (by omega) (g := (mkF m 202 #[iv vA, iv vB, iv vC, .val (.long vD), .second, iv vW, iv vE, iv nv, iv pv, iv vv, rv b1, iv (lenv + (1 : Int32)), un, un, un, un, un, un] [(.int (61 : Int32)), (.int lenv), (.ref b1)])) rfl rfl (hb hby at_202)
      have f12_V_va := AF.other U9 W12 ne_va_b1
      have f12_T_com_example_belge_belge_SimpleTypes_Base64Check_VALUES := S9.wr W12
      have sz12 := Nat.le_trans sz9 (Nat.le_of_eq W12.size.symm)
      have N12 := Fr.snoc X12 N9 g_b1
      refine Ends.go (fun _ => st12 _) ?_
      show Ends p.tables e below G (T12.setTop (mkF m 203 #[iv vA, iv vB, iv vC, .val (.long vD), .second, iv vW, iv vE, iv nv, iv pv, iv vv, rv b1, iv (lenv + (1 : Int32)), un, un, un, un, un, un] []))
      exact at203 _ _ _ (own_up F len (nar .byte 61)) (len + 1) _ X12 e12 N12 sz12 (AF.congr V12 (fun k hk => by simp only [own_up]; split <;> rfl)) f12_V_va f12_T_com_example_belge_belge_SimpleTypes_Base64Check_VALUES (by rw [show min pn 1 = 1 by omega]; exact own_tk_snoc hT (own_stp_eq (by decide) hv61)) (own_add hlen (b := 1) (y := 1) rfl (by omega)) (by omega)
  have hd7 : ∀ (T9 : State) (L9 : List Loc) (h9 : Heap) (F : Nat → Int32) (la : Int32), Stand p l e room_1 s m #[(.int vA), (.int vB), (.int vC), (.long vD), (.int vW), (.int vE)] below meth c T9 L9 (0 + 1) (0 + 12) → T9.heap = h9 → Fr n0 L9 → n0 ≤ h9.size → AF Z h9 b1 .byte 12 (fun k => .int (F k)) → AF Z h9 va .byte 256 (fun k => .int (VT k)) → Sta Z h9 "com/example/belge/belge/SimpleTypes$Base64Check" "VALUES" "[B" (.ref va) → own_tk VT F (0, 0, 0) 0 (min n 7) = some (min n 7, 0, la) → (n ≤ 7 → la = (if n = 0 then (0 : Int32) else vv)) → Ends p.tables e below G (T9.setTop (mkF m 161 #[iv vA, iv vB, iv vC, .val (.long vD), .second, iv vW, iv vE, iv nv, iv pv, iv vv, rv b1, un, un, un, un, un, un, un] [])) := by
    intro T9 L9 h9 F la X9 e9 N9 sz9 V9 U9 S9 hT hla
    rw [Nat.min_eq_left hn7] at hT
    rw [hla hn7] at hT
    refine Ends.go (fun _ => XS.iload X9.here hx rfl (hb hby at_161) rfl) ?_
    show Ends p.tables e below G (T9.setTop (mkF m 163 #[iv vA, iv vB, iv vC, .val (.long vD), .second, iv vW, iv vE, iv nv, iv pv, iv vv, rv b1, un, un, un, un, un, un, un] [(.int nv)]))
    refine Ends.go (fun _ => XS.istore X9.here hx rfl (hb hby at_163) rfl (l' := #[iv vA, iv vB, iv vC, .val (.long vD), .second, iv vW, iv vE, iv nv, iv pv, iv vv, rv b1, iv nv, un, un, un, un, un, un]) rfl) ?_
    show Ends p.tables e below G (T9.setTop (mkF m 165 #[iv vA, iv vB, iv vC, .val (.long vD), .second, iv vW, iv vE, iv nv, iv pv, iv vv, rv b1, iv nv, un, un, un, un, un, un] []))
    refine Ends.go (fun _ => XS.iload X9.here hx rfl (hb hby at_165) rfl) ?_
    show Ends p.tables e below G (T9.setTop (mkF m 167 #[iv vA, iv vB, iv vC, .val (.long vD), .second, iv vW, iv vE, iv nv, iv pv, iv vv, rv b1, iv nv, un, un, un, un, un, un] [(.int vW)]))
    refine Ends.go (fun _ => XS.iconst X9.here hx rfl (hb hby at_167)) ?_
    show Ends p.tables e below G (T9.setTop (mkF m 168 #[iv vA, iv vB, iv vC, .val (.long vD), .second, iv vW, iv vE, iv nv, iv pv, iv vv, rv b1, iv nv, un, un, un, un, un, un] [(.int (1 : Int32)), (.int vW)]))
    refine Ends.go (fun _ => XS.iand X9.here hx rfl (hb hby at_168) rfl) ?_
    show Ends p.tables e below G (T9.setTop (mkF m 169 #[iv vA, iv vB, iv vC, .val (.long vD), .second, iv vW, iv vE, iv nv, iv pv, iv vv, rv b1, iv nv, un, un, un, un, un, un] [(.int (vW &&& (1 : Int32)))]))
    have hlen := hn
    have hl12 := hn7
    by_cases km : (vW &&& (1 : Int32)) = (0 : Int32)
    · refine Ends.go (fun _ => XS.ifYes X9.here hx rfl (pc0 := 169) (pc' := 187) rfl (hb hby at_169) rfl ((if0 _ _).trans (teq (km : (vW &&& (1 : Int32)) = (0 : Int32))).1) (by decide) (by decide)) ?_
      show Ends p.tables e below G (T9.setTop (mkF m 187 #[iv vA, iv vB, iv vC, .val (.long vD), .second, iv vW, iv vE, iv nv, iv pv, iv vv, rv b1, iv nv, un, un, un, un, un, un] []))
      exact at187 _ _ _ F n _ X9 e9 N9 sz9 V9 U9 S9 hT hn (by omega)
    · refine Ends.go (fun _ => XS.ifNo X9.here hx rfl (hb hby at_169) rfl ((if0 _ _).trans (feq (km : ¬ ((vW &&& (1 : Int32)) = (0 : Int32)))).1)) ?_
      show Ends p.tables e below G (T9.setTop (mkF m 172 #[iv vA, iv vB, iv vC, .val (.long vD), .second, iv vW, iv vE, iv nv, iv pv, iv vv, rv b1, iv nv, un, un, un, un, un, un] []))
      refine Ends.go (fun _ => XS.aload X9.here hx rfl (hb hby at_172) rfl rfl) ?_
      show Ends p.tables e below G (T9.setTop (mkF m 174 #[iv vA, iv vB, iv vC, .val (.long vD), .second, iv vW, iv vE, iv nv, iv pv, iv vv, rv b1, iv nv, un, un, un, un, un, un] [(.ref b1)]))
      refine Ends.go (fun _ => XS.iload X9.here hx rfl (hb hby at_174) rfl) ?_
      show Ends p.tables e below G (T9.setTop (mkF m 176 #[iv vA, iv vB, iv vC, .val (.long vD), .second, iv vW, iv vE, iv nv, iv pv, iv vv, rv b1, iv nv, un, un, un, un, un, un] [(.int nv), (.ref b1)]))
      refine Ends.go (fun _ => XS.iinc X9.here hx rfl (hb hby at_176) rfl (l' := #[iv vA, iv vB, iv vC, .val (.long vD), .second, iv vW, iv vE, iv nv, iv pv, iv vv, rv b1, iv (nv + (1 : Int32)), un, un, un, un, un, un]) rfl) ?_
      show Ends p.tables e below G (T9.setTop (mkF m 179 #[iv vA, iv vB, iv vC, .val (.long vD), .second, iv vW, iv vE, iv nv, iv pv, iv vv, rv b1, iv (nv + (1 : Int32)), un, un, un, un, un, un] [(.int nv), (.ref b1)]))
      refine Ends.go (fun _ => XS.iload X9.here hx rfl (hb hby at_179) rfl) ?_
      show Ends p.tables e below G (T9.setTop (mkF m 181 #[iv vA, iv vB, iv vC, .val (.long vD), .second, iv vW, iv vE, iv nv, iv pv, iv vv, rv b1, iv (nv + (1 : Int32)), un, un, un, un, un, un] [(.int vW), (.int nv), (.ref b1)]))
      refine Ends.go (fun _ => XS.iconst X9.here hx rfl (hb hby at_181)) ?_
      show Ends p.tables e below G (T9.setTop (mkF m 182 #[iv vA, iv vB, iv vC, .val (.long vD), .second, iv vW, iv vE, iv nv, iv pv, iv vv, rv b1, iv (nv + (1 : Int32)), un, un, un, un, un, un] [(.int (1 : Int32)), (.int vW), (.int nv), (.ref b1)]))
      refine Ends.go (fun _ => XS.iushr X9.here hx rfl (hb hby at_182) rfl) ?_
      show Ends p.tables e below G (T9.setTop (mkF m 183 #[iv vA, iv vB, iv vC, .val (.long vD), .second, iv vW, iv vE, iv nv, iv pv, iv vv, rv b1, iv (nv + (1 : Int32)), un, un, un, un, un, un] [(.int ((vW.toUInt32 >>> ((1 : Int32) &&& 31).toUInt32).toInt32)), (.int nv), (.ref b1)]))
      obtain ⟨_, _, ⟨T13, L13, k13, n13⟩, -, X13, ⟨Lc13, hQ13, l13, y13, z13⟩, st13⟩ := Jvm.LawKit.callS X9 hx (y := (⟨"com/example/belge/belge/Base64CheckIsCompletePinLaw", "space", "(I)B"⟩ : MethodName)) hown (mvT hZ (hw _ (List.mem_of_getElem? (i := 33) rfl))) (mvT hZ (hw _ (List.mem_of_getElem? (i := 34) rfl))) (mvT hZ (hw _ (List.mem_of_getElem? (i := 27) rfl))) (mvT hZ (hw _ (List.mem_of_getElem? (i := 35) rfl))) (by decide) (backOf (W := 2) (rm7 l Z a0 hw [] ((vW.toUInt32 >>> ((1 : Int32) &&& 31).toUInt32).toInt32) h9 n0 sz9) hZ (hw _ (List.mem_of_getElem? (i := 35) rfl)) (hw _ (List.mem_of_getElem? (i := 27) rfl)) (by decide) (by decide)) (g := (mkF m 183 #[iv vA, iv vB, iv vC, .val (.long vD), .second, iv vW, iv vE, iv nv, iv pv, iv vv, rv b1, iv (nv + (1 : Int32)), un, un, un, un, un, un] [(.int ((vW.toUInt32 >>> ((1 : Int32) &&& 31).toUInt32).toInt32)), (.int nv), (.ref b1)])) rfl (by rw [hml]; rfl) (argsL := [(.int ((vW.toUInt32 >>> ((1 : Int32) &&& 31).toUInt32).toInt32))]) (rest := [(.int nv), (.ref b1)]) (lenOf pd_0 rfl) rfl (by show 2 * 0 + _ ≤ _; exact Nat.le_of_eq rfl) (hb hby at_183) (fun _ _ => ⟨rfl, e9, (by decide : (0 + 1) + 0 ≤ _), (by decide : (0 + 12) + 0 ≤ _)⟩)
      dsimp only [Pt.U, Pt.locs, Pt.cells, Pt.slots] at X13 l13 y13 z13 st13 hQ13
      subst l13 y13 z13
      obtain ⟨rs, rfl, N13q, e13, hrs⟩ := hQ13
      have N13 := Fr.app N9 N13q
      refine Ends.go (fun _ => st13 _) ?_
      show Ends p.tables e below G (T13.setTop (mkF m 186 #[iv vA, iv vB, iv vC, .val (.long vD), .second, iv vW, iv vE, iv nv, iv pv, iv vv, rv b1, iv (nv + (1 : Int32)), un, un, un, un, un, un] [(.int rs), (.int nv), (.ref b1)]))
      obtain ⟨T14, h14, X14, e14, W14, V14, st14⟩ := AF.stB V9 X13 hx hZ e13 (j := nv) (i := n) hn (by omega) (g := (mkF m 186 #[iv vA, iv vB, iv vC, .val (.long vD), .second, iv vW, iv vE, iv nv, iv pv, iv vv, rv b1, iv (nv + (1 : Int32)), un, un, un, un, un, un] [(.int rs), (.int nv), (.ref b1)])) rfl rfl (hb hby at_186)
      have f14_V_va := AF.other U9 W14 ne_va_b1
      have f14_T_com_example_belge_belge_SimpleTypes_Base64Check_VALUES := S9.wr W14
      have sz14 := Nat.le_trans sz9 (Nat.le_of_eq W14.size.symm)
      have N14 := Fr.snoc X14 N13 g_b1
      refine Ends.go (fun _ => st14 _) ?_
      show Ends p.tables e below G (T14.setTop (mkF m 187 #[iv vA, iv vB, iv vC, .val (.long vD), .second, iv vW, iv vE, iv nv, iv pv, iv vv, rv b1, iv (nv + (1 : Int32)), un, un, un, un, un, un] []))
      have hns : nar .byte rs = rs := by rcases hrs with rfl | rfl | rfl | rfl <;> rfl
      exact at187 _ _ _ (own_up F n (nar .byte rs)) (n + 1) _ X14 e14 N14 sz14 (AF.congr V14 (fun k hk => by simp only [own_up]; split <;> rfl)) f14_V_va f14_T_com_example_belge_belge_SimpleTypes_Base64Check_VALUES (own_tk_snoc hT (by rw [hns]; exact own_stp_sp hrs (own_vsp hV hrs))) (own_add hlen (b := 1) (y := 1) rfl (by omega)) (by omega)
  have hd6 : ∀ (T9 : State) (L9 : List Loc) (h9 : Heap) (F : Nat → Int32) (la : Int32), Stand p l e room_1 s m #[(.int vA), (.int vB), (.int vC), (.long vD), (.int vW), (.int vE)] below meth c T9 L9 (0 + 1) (0 + 12) → T9.heap = h9 → Fr n0 L9 → n0 ≤ h9.size → AF Z h9 b1 .byte 12 (fun k => .int (F k)) → AF Z h9 va .byte 256 (fun k => .int (VT k)) → Sta Z h9 "com/example/belge/belge/SimpleTypes$Base64Check" "VALUES" "[B" (.ref va) → own_tk VT F (0, 0, 0) 0 (min n 6) = some (min n 6, 0, la) → (n ≤ 6 → la = (if n = 0 then (0 : Int32) else vv)) → Ends p.tables e below G (T9.setTop (mkF m 139 #[iv vA, iv vB, iv vC, .val (.long vD), .second, iv vW, iv vE, iv nv, iv pv, iv vv, rv b1, un, un, un, un, un, un, un] [])) := by
    intro T9 L9 h9 F la X9 e9 N9 sz9 V9 U9 S9 hT hla
    refine Ends.go (fun _ => XS.iload X9.here hx rfl (hb hby at_139) rfl) ?_
    show Ends p.tables e below G (T9.setTop (mkF m 141 #[iv vA, iv vB, iv vC, .val (.long vD), .second, iv vW, iv vE, iv nv, iv pv, iv vv, rv b1, un, un, un, un, un, un, un] [(.int nv)]))
    refine Ends.go (fun _ => XS.bipush X9.here hx rfl (hb hby at_141)) ?_
    show Ends p.tables e below G (T9.setTop (mkF m 143 #[iv vA, iv vB, iv vC, .val (.long vD), .second, iv vW, iv vE, iv nv, iv pv, iv vv, rv b1, un, un, un, un, un, un, un] [(.int (6 : Int32)), (.int nv)]))
    by_cases k0 : 6 < n
    · refine Ends.go (fun _ => XS.icmpNo X9.here hx rfl (hb hby at_143) rfl (tlt ((own_lt (a := 6) rfl hn).mpr k0 : (6 : Int32) < nv)).2.2.2) ?_
      show Ends p.tables e below G (T9.setTop (mkF m 146 #[iv vA, iv vB, iv vC, .val (.long vD), .second, iv vW, iv vE, iv nv, iv pv, iv vv, rv b1, un, un, un, un, un, un, un] []))
      refine Ends.go (fun _ => XS.aload X9.here hx rfl (hb hby at_146) rfl rfl) ?_
      show Ends p.tables e below G (T9.setTop (mkF m 148 #[iv vA, iv vB, iv vC, .val (.long vD), .second, iv vW, iv vE, iv nv, iv pv, iv vv, rv b1, un, un, un, un, un, un, un] [(.ref b1)]))
      refine Ends.go (fun _ => XS.bipush X9.here hx rfl (hb hby at_148)) ?_
      show Ends p.tables e below G (T9.setTop (mkF m 150 #[iv vA, iv vB, iv vC, .val (.long vD), .second, iv vW, iv vE, iv nv, iv pv, iv vv, rv b1, un, un, un, un, un, un, un] [(.int (6 : Int32)), (.ref b1)]))
      refine Ends.go (fun _ => XS.bipush X9.here hx rfl (hb hby at_150)) ?_
      show Ends p.tables e below G (T9.setTop (mkF m 152 #[iv vA, iv vB, iv vC, .val (.long vD), .second, iv vW, iv vE, iv nv, iv pv, iv vv, rv b1, un, un, un, un, un, un, un] [(.int (6 : Int32)), (.int (6 : Int32)), (.ref b1)]))
      refine Ends.go (fun _ => XS.iload X9.here hx rfl (hb hby at_152) rfl) ?_
      show Ends p.tables e below G (T9.setTop (mkF m 154 #[iv vA, iv vB, iv vC, .val (.long vD), .second, iv vW, iv vE, iv nv, iv pv, iv vv, rv b1, un, un, un, un, un, un, un] [(.int nv), (.int (6 : Int32)), (.int (6 : Int32)), (.ref b1)]))
      refine Ends.go (fun _ => XS.iload X9.here hx rfl (hb hby at_154) rfl) ?_
      show Ends p.tables e below G (T9.setTop (mkF m 156 #[iv vA, iv vB, iv vC, .val (.long vD), .second, iv vW, iv vE, iv nv, iv pv, iv vv, rv b1, un, un, un, un, un, un, un] [(.int vv), (.int nv), (.int (6 : Int32)), (.int (6 : Int32)), (.ref b1)]))
      refine Ends.go (fun _ => XS.lloadN X9.here hx rfl (hb hby at_156) rfl) ?_
      show Ends p.tables e below G (T9.setTop (mkF m 157 #[iv vA, iv vB, iv vC, .val (.long vD), .second, iv vW, iv vE, iv nv, iv pv, iv vv, rv b1, un, un, un, un, un, un, un] [(.long vD), (.int vv), (.int nv), (.int (6 : Int32)), (.int (6 : Int32)), (.ref b1)]))
      obtain ⟨_, _, ⟨T15, L15, k15, n15⟩, -, X15, ⟨Lc15, hQ15, l15, y15, z15⟩, st15⟩ := Jvm.LawKit.callS X9 hx (y := (⟨"com/example/belge/belge/Base64CheckIsCompletePinLaw", "letter", "(IIIJ)B"⟩ : MethodName)) hown (mvT hZ (hw _ (List.mem_of_getElem? (i := 25) rfl))) (mvT hZ (hw _ (List.mem_of_getElem? (i := 26) rfl))) (mvT hZ (hw _ (List.mem_of_getElem? (i := 27) rfl))) (mvT hZ (hw _ (List.mem_of_getElem? (i := 28) rfl))) (by decide) (backOf (W := 2) (rm5 l Z a0 hw [] (6 : Int32) nv vv vD 6 n vn VT h9 n0 sz9 (by decide) hn hv hv6 hV) hZ (hw _ (List.mem_of_getElem? (i := 28) rfl)) (hw _ (List.mem_of_getElem? (i := 27) rfl)) (by decide) (by decide)) (g := (mkF m 157 #[iv vA, iv vB, iv vC, .val (.long vD), .second, iv vW, iv vE, iv nv, iv pv, iv vv, rv b1, un, un, un, un, un, un, un] [(.long vD), (.int vv), (.int nv), (.int (6 : Int32)), (.int (6 : Int32)), (.ref b1)])) rfl (by rw [hml]; rfl) (argsL := [(.int (6 : Int32)), (.int nv), (.int vv), (.long vD)]) (rest := [(.int (6 : Int32)), (.ref b1)]) (lenOf pd_3 rfl) rfl (by show 2 * 0 + _ ≤ _; exact Nat.le_of_eq rfl) (hb hby at_157) (fun _ _ => ⟨rfl, e9, (by decide : (0 + 1) + 0 ≤ _), (by decide : (0 + 12) + 0 ≤ _)⟩)
      dsimp only [Pt.U, Pt.locs, Pt.cells, Pt.slots] at X15 l15 y15 z15 st15 hQ15
      subst l15 y15 z15
      obtain ⟨rl, rfl, N15q, e15, hl1, hl2⟩ := hQ15
      have N15 := Fr.app N9 N15q
      refine Ends.go (fun _ => st15 _) ?_
      show Ends p.tables e below G (T15.setTop (mkF m 160 #[iv vA, iv vB, iv vC, .val (.long vD), .second, iv vW, iv vE, iv nv, iv pv, iv vv, rv b1, un, un, un, un, un, un, un] [(.int rl), (.int (6 : Int32)), (.ref b1)]))
      obtain ⟨T16, h16, X16, e16, W16, V16, st16⟩ := AF.stB V9 X15 hx hZ e15 (j := (6 : Int32)) (i := 6) (by decide) (by decide) (g := (mkF m 160 #[iv vA, iv vB, iv vC, .val (.long vD), .second, iv vW, iv vE, iv nv, iv pv, iv vv, rv b1, un, un, un, un, un, un, un] [(.int rl), (.int (6 : Int32)), (.ref b1)])) rfl rfl (hb hby at_160)
      have f16_V_va := AF.other U9 W16 ne_va_b1
      have f16_T_com_example_belge_belge_SimpleTypes_Base64Check_VALUES := S9.wr W16
      have sz16 := Nat.le_trans sz9 (Nat.le_of_eq W16.size.symm)
      have N16 := Fr.snoc X16 N15 g_b1
      refine Ends.go (fun _ => st16 _) ?_
      show Ends p.tables e below G (T16.setTop (mkF m 161 #[iv vA, iv vB, iv vC, .val (.long vD), .second, iv vW, iv vE, iv nv, iv pv, iv vv, rv b1, un, un, un, un, un, un, un] []))
      exact hd7 _ _ _ (own_up F 6 (nar .byte rl)) (VT (own_ix (nar .byte rl))) X16 e16 N16 sz16 (AF.congr V16 (fun k hk => by simp only [own_up]; split <;> rfl)) f16_V_va f16_T_com_example_belge_belge_SimpleTypes_Base64Check_VALUES (by rw [Nat.min_eq_right (by omega : 7 ≤ n)]; rw [Nat.min_eq_right (by omega : 6 ≤ n)] at hT; exact own_tk_snoc hT (own_stp_run (by rw [own_ixn]; exact hl1))) (fun z => by rw [if_neg (by omega), own_ixn]; exact hl2 (by omega))
    · refine Ends.go (fun _ => XS.icmpYes X9.here hx rfl (pc0 := 143) (pc' := 161) rfl (hb hby at_143) rfl (flt (fun z => k0 ((own_lt (a := 6) rfl hn).mp z) : ¬ ((6 : Int32) < nv))).2.2.2 (by decide) (by decide)) ?_
      show Ends p.tables e below G (T9.setTop (mkF m 161 #[iv vA, iv vB, iv vC, .val (.long vD), .second, iv vW, iv vE, iv nv, iv pv, iv vv, rv b1, un, un, un, un, un, un, un] []))
      exact hd7 _ _ _ F la X9 e9 N9 sz9 V9 U9 S9 (by rw [Nat.min_eq_left (by omega : n ≤ 7)]; rw [Nat.min_eq_left (by omega : n ≤ 6)] at hT; exact hT) (fun _ => hla (by omega))
  have hd5 : ∀ (T9 : State) (L9 : List Loc) (h9 : Heap) (F : Nat → Int32) (la : Int32), Stand p l e room_1 s m #[(.int vA), (.int vB), (.int vC), (.long vD), (.int vW), (.int vE)] below meth c T9 L9 (0 + 1) (0 + 12) → T9.heap = h9 → Fr n0 L9 → n0 ≤ h9.size → AF Z h9 b1 .byte 12 (fun k => .int (F k)) → AF Z h9 va .byte 256 (fun k => .int (VT k)) → Sta Z h9 "com/example/belge/belge/SimpleTypes$Base64Check" "VALUES" "[B" (.ref va) → own_tk VT F (0, 0, 0) 0 (min n 5) = some (min n 5, 0, la) → (n ≤ 5 → la = (if n = 0 then (0 : Int32) else vv)) → Ends p.tables e below G (T9.setTop (mkF m 120 #[iv vA, iv vB, iv vC, .val (.long vD), .second, iv vW, iv vE, iv nv, iv pv, iv vv, rv b1, un, un, un, un, un, un, un] [])) := by
    intro T9 L9 h9 F la X9 e9 N9 sz9 V9 U9 S9 hT hla
    refine Ends.go (fun _ => XS.iload X9.here hx rfl (hb hby at_120) rfl) ?_
    show Ends p.tables e below G (T9.setTop (mkF m 122 #[iv vA, iv vB, iv vC, .val (.long vD), .second, iv vW, iv vE, iv nv, iv pv, iv vv, rv b1, un, un, un, un, un, un, un] [(.int nv)]))
    refine Ends.go (fun _ => XS.iconst X9.here hx rfl (hb hby at_122)) ?_
    show Ends p.tables e below G (T9.setTop (mkF m 123 #[iv vA, iv vB, iv vC, .val (.long vD), .second, iv vW, iv vE, iv nv, iv pv, iv vv, rv b1, un, un, un, un, un, un, un] [(.int (5 : Int32)), (.int nv)]))
    by_cases k0 : 5 < n
    · refine Ends.go (fun _ => XS.icmpNo X9.here hx rfl (hb hby at_123) rfl (tlt ((own_lt (a := 5) rfl hn).mpr k0 : (5 : Int32) < nv)).2.2.2) ?_
      show Ends p.tables e below G (T9.setTop (mkF m 126 #[iv vA, iv vB, iv vC, .val (.long vD), .second, iv vW, iv vE, iv nv, iv pv, iv vv, rv b1, un, un, un, un, un, un, un] []))
      refine Ends.go (fun _ => XS.aload X9.here hx rfl (hb hby at_126) rfl rfl) ?_
      show Ends p.tables e below G (T9.setTop (mkF m 128 #[iv vA, iv vB, iv vC, .val (.long vD), .second, iv vW, iv vE, iv nv, iv pv, iv vv, rv b1, un, un, un, un, un, un, un] [(.ref b1)]))
      refine Ends.go (fun _ => XS.iconst X9.here hx rfl (hb hby at_128)) ?_
      show Ends p.tables e below G (T9.setTop (mkF m 129 #[iv vA, iv vB, iv vC, .val (.long vD), .second, iv vW, iv vE, iv nv, iv pv, iv vv, rv b1, un, un, un, un, un, un, un] [(.int (5 : Int32)), (.ref b1)]))
      refine Ends.go (fun _ => XS.iconst X9.here hx rfl (hb hby at_129)) ?_
      show Ends p.tables e below G (T9.setTop (mkF m 130 #[iv vA, iv vB, iv vC, .val (.long vD), .second, iv vW, iv vE, iv nv, iv pv, iv vv, rv b1, un, un, un, un, un, un, un] [(.int (5 : Int32)), (.int (5 : Int32)), (.ref b1)]))
      refine Ends.go (fun _ => XS.iload X9.here hx rfl (hb hby at_130) rfl) ?_
      show Ends p.tables e below G (T9.setTop (mkF m 132 #[iv vA, iv vB, iv vC, .val (.long vD), .second, iv vW, iv vE, iv nv, iv pv, iv vv, rv b1, un, un, un, un, un, un, un] [(.int nv), (.int (5 : Int32)), (.int (5 : Int32)), (.ref b1)]))
      refine Ends.go (fun _ => XS.iload X9.here hx rfl (hb hby at_132) rfl) ?_
      show Ends p.tables e below G (T9.setTop (mkF m 134 #[iv vA, iv vB, iv vC, .val (.long vD), .second, iv vW, iv vE, iv nv, iv pv, iv vv, rv b1, un, un, un, un, un, un, un] [(.int vv), (.int nv), (.int (5 : Int32)), (.int (5 : Int32)), (.ref b1)]))
      refine Ends.go (fun _ => XS.lloadN X9.here hx rfl (hb hby at_134) rfl) ?_
      show Ends p.tables e below G (T9.setTop (mkF m 135 #[iv vA, iv vB, iv vC, .val (.long vD), .second, iv vW, iv vE, iv nv, iv pv, iv vv, rv b1, un, un, un, un, un, un, un] [(.long vD), (.int vv), (.int nv), (.int (5 : Int32)), (.int (5 : Int32)), (.ref b1)]))
      obtain ⟨_, _, ⟨T17, L17, k17, n17⟩, -, X17, ⟨Lc17, hQ17, l17, y17, z17⟩, st17⟩ := Jvm.LawKit.callS X9 hx (y := (⟨"com/example/belge/belge/Base64CheckIsCompletePinLaw", "letter", "(IIIJ)B"⟩ : MethodName)) hown (mvT hZ (hw _ (List.mem_of_getElem? (i := 25) rfl))) (mvT hZ (hw _ (List.mem_of_getElem? (i := 26) rfl))) (mvT hZ (hw _ (List.mem_of_getElem? (i := 27) rfl))) (mvT hZ (hw _ (List.mem_of_getElem? (i := 28) rfl))) (by decide) (backOf (W := 2) (rm5 l Z a0 hw [] (5 : Int32) nv vv vD 5 n vn VT h9 n0 sz9 (by decide) hn hv hv6 hV) hZ (hw _ (List.mem_of_getElem? (i := 28) rfl)) (hw _ (List.mem_of_getElem? (i := 27) rfl)) (by decide) (by decide)) (g := (mkF m 135 #[iv vA, iv vB, iv vC, .val (.long vD), .second, iv vW, iv vE, iv nv, iv pv, iv vv, rv b1, un, un, un, un, un, un, un] [(.long vD), (.int vv), (.int nv), (.int (5 : Int32)), (.int (5 : Int32)), (.ref b1)])) rfl (by rw [hml]; rfl) (argsL := [(.int (5 : Int32)), (.int nv), (.int vv), (.long vD)]) (rest := [(.int (5 : Int32)), (.ref b1)]) (lenOf pd_3 rfl) rfl (by show 2 * 0 + _ ≤ _; exact Nat.le_of_eq rfl) (hb hby at_135) (fun _ _ => ⟨rfl, e9, (by decide : (0 + 1) + 0 ≤ _), (by decide : (0 + 12) + 0 ≤ _)⟩)
      dsimp only [Pt.U, Pt.locs, Pt.cells, Pt.slots] at X17 l17 y17 z17 st17 hQ17
      subst l17 y17 z17
      obtain ⟨rl, rfl, N17q, e17, hl1, hl2⟩ := hQ17
      have N17 := Fr.app N9 N17q
      refine Ends.go (fun _ => st17 _) ?_
      show Ends p.tables e below G (T17.setTop (mkF m 138 #[iv vA, iv vB, iv vC, .val (.long vD), .second, iv vW, iv vE, iv nv, iv pv, iv vv, rv b1, un, un, un, un, un, un, un] [(.int rl), (.int (5 : Int32)), (.ref b1)]))
      obtain ⟨T18, h18, X18, e18, W18, V18, st18⟩ := AF.stB V9 X17 hx hZ e17 (j := (5 : Int32)) (i := 5) (by decide) (by decide) (g := (mkF m 138 #[iv vA, iv vB, iv vC, .val (.long vD), .second, iv vW, iv vE, iv nv, iv pv, iv vv, rv b1, un, un, un, un, un, un, un] [(.int rl), (.int (5 : Int32)), (.ref b1)])) rfl rfl (hb hby at_138)
      have f18_V_va := AF.other U9 W18 ne_va_b1
      have f18_T_com_example_belge_belge_SimpleTypes_Base64Check_VALUES := S9.wr W18
      have sz18 := Nat.le_trans sz9 (Nat.le_of_eq W18.size.symm)
      have N18 := Fr.snoc X18 N17 g_b1
      refine Ends.go (fun _ => st18 _) ?_
      show Ends p.tables e below G (T18.setTop (mkF m 139 #[iv vA, iv vB, iv vC, .val (.long vD), .second, iv vW, iv vE, iv nv, iv pv, iv vv, rv b1, un, un, un, un, un, un, un] []))
      exact hd6 _ _ _ (own_up F 5 (nar .byte rl)) (VT (own_ix (nar .byte rl))) X18 e18 N18 sz18 (AF.congr V18 (fun k hk => by simp only [own_up]; split <;> rfl)) f18_V_va f18_T_com_example_belge_belge_SimpleTypes_Base64Check_VALUES (by rw [Nat.min_eq_right (by omega : 6 ≤ n)]; rw [Nat.min_eq_right (by omega : 5 ≤ n)] at hT; exact own_tk_snoc hT (own_stp_run (by rw [own_ixn]; exact hl1))) (fun z => by rw [if_neg (by omega), own_ixn]; exact hl2 (by omega))
    · refine Ends.go (fun _ => XS.icmpYes X9.here hx rfl (pc0 := 123) (pc' := 139) rfl (hb hby at_123) rfl (flt (fun z => k0 ((own_lt (a := 5) rfl hn).mp z) : ¬ ((5 : Int32) < nv))).2.2.2 (by decide) (by decide)) ?_
      show Ends p.tables e below G (T9.setTop (mkF m 139 #[iv vA, iv vB, iv vC, .val (.long vD), .second, iv vW, iv vE, iv nv, iv pv, iv vv, rv b1, un, un, un, un, un, un, un] []))
      exact hd6 _ _ _ F la X9 e9 N9 sz9 V9 U9 S9 (by rw [Nat.min_eq_left (by omega : n ≤ 6)]; rw [Nat.min_eq_left (by omega : n ≤ 5)] at hT; exact hT) (fun _ => hla (by omega))
  have hd4 : ∀ (T9 : State) (L9 : List Loc) (h9 : Heap) (F : Nat → Int32) (la : Int32), Stand p l e room_1 s m #[(.int vA), (.int vB), (.int vC), (.long vD), (.int vW), (.int vE)] below meth c T9 L9 (0 + 1) (0 + 12) → T9.heap = h9 → Fr n0 L9 → n0 ≤ h9.size → AF Z h9 b1 .byte 12 (fun k => .int (F k)) → AF Z h9 va .byte 256 (fun k => .int (VT k)) → Sta Z h9 "com/example/belge/belge/SimpleTypes$Base64Check" "VALUES" "[B" (.ref va) → own_tk VT F (0, 0, 0) 0 (min n 4) = some (min n 4, 0, la) → (n ≤ 4 → la = (if n = 0 then (0 : Int32) else vv)) → Ends p.tables e below G (T9.setTop (mkF m 101 #[iv vA, iv vB, iv vC, .val (.long vD), .second, iv vW, iv vE, iv nv, iv pv, iv vv, rv b1, un, un, un, un, un, un, un] [])) := by
    intro T9 L9 h9 F la X9 e9 N9 sz9 V9 U9 S9 hT hla
    refine Ends.go (fun _ => XS.iload X9.here hx rfl (hb hby at_101) rfl) ?_
    show Ends p.tables e below G (T9.setTop (mkF m 103 #[iv vA, iv vB, iv vC, .val (.long vD), .second, iv vW, iv vE, iv nv, iv pv, iv vv, rv b1, un, un, un, un, un, un, un] [(.int nv)]))
    refine Ends.go (fun _ => XS.iconst X9.here hx rfl (hb hby at_103)) ?_
    show Ends p.tables e below G (T9.setTop (mkF m 104 #[iv vA, iv vB, iv vC, .val (.long vD), .second, iv vW, iv vE, iv nv, iv pv, iv vv, rv b1, un, un, un, un, un, un, un] [(.int (4 : Int32)), (.int nv)]))
    by_cases k0 : 4 < n
    · refine Ends.go (fun _ => XS.icmpNo X9.here hx rfl (hb hby at_104) rfl (tlt ((own_lt (a := 4) rfl hn).mpr k0 : (4 : Int32) < nv)).2.2.2) ?_
      show Ends p.tables e below G (T9.setTop (mkF m 107 #[iv vA, iv vB, iv vC, .val (.long vD), .second, iv vW, iv vE, iv nv, iv pv, iv vv, rv b1, un, un, un, un, un, un, un] []))
      refine Ends.go (fun _ => XS.aload X9.here hx rfl (hb hby at_107) rfl rfl) ?_
      show Ends p.tables e below G (T9.setTop (mkF m 109 #[iv vA, iv vB, iv vC, .val (.long vD), .second, iv vW, iv vE, iv nv, iv pv, iv vv, rv b1, un, un, un, un, un, un, un] [(.ref b1)]))
      refine Ends.go (fun _ => XS.iconst X9.here hx rfl (hb hby at_109)) ?_
      show Ends p.tables e below G (T9.setTop (mkF m 110 #[iv vA, iv vB, iv vC, .val (.long vD), .second, iv vW, iv vE, iv nv, iv pv, iv vv, rv b1, un, un, un, un, un, un, un] [(.int (4 : Int32)), (.ref b1)]))
      refine Ends.go (fun _ => XS.iconst X9.here hx rfl (hb hby at_110)) ?_
      show Ends p.tables e below G (T9.setTop (mkF m 111 #[iv vA, iv vB, iv vC, .val (.long vD), .second, iv vW, iv vE, iv nv, iv pv, iv vv, rv b1, un, un, un, un, un, un, un] [(.int (4 : Int32)), (.int (4 : Int32)), (.ref b1)]))
      refine Ends.go (fun _ => XS.iload X9.here hx rfl (hb hby at_111) rfl) ?_
      show Ends p.tables e below G (T9.setTop (mkF m 113 #[iv vA, iv vB, iv vC, .val (.long vD), .second, iv vW, iv vE, iv nv, iv pv, iv vv, rv b1, un, un, un, un, un, un, un] [(.int nv), (.int (4 : Int32)), (.int (4 : Int32)), (.ref b1)]))
      refine Ends.go (fun _ => XS.iload X9.here hx rfl (hb hby at_113) rfl) ?_
      show Ends p.tables e below G (T9.setTop (mkF m 115 #[iv vA, iv vB, iv vC, .val (.long vD), .second, iv vW, iv vE, iv nv, iv pv, iv vv, rv b1, un, un, un, un, un, un, un] [(.int vv), (.int nv), (.int (4 : Int32)), (.int (4 : Int32)), (.ref b1)]))
      refine Ends.go (fun _ => XS.lloadN X9.here hx rfl (hb hby at_115) rfl) ?_
      show Ends p.tables e below G (T9.setTop (mkF m 116 #[iv vA, iv vB, iv vC, .val (.long vD), .second, iv vW, iv vE, iv nv, iv pv, iv vv, rv b1, un, un, un, un, un, un, un] [(.long vD), (.int vv), (.int nv), (.int (4 : Int32)), (.int (4 : Int32)), (.ref b1)]))
      obtain ⟨_, _, ⟨T19, L19, k19, n19⟩, -, X19, ⟨Lc19, hQ19, l19, y19, z19⟩, st19⟩ := Jvm.LawKit.callS X9 hx (y := (⟨"com/example/belge/belge/Base64CheckIsCompletePinLaw", "letter", "(IIIJ)B"⟩ : MethodName)) hown (mvT hZ (hw _ (List.mem_of_getElem? (i := 25) rfl))) (mvT hZ (hw _ (List.mem_of_getElem? (i := 26) rfl))) (mvT hZ (hw _ (List.mem_of_getElem? (i := 27) rfl))) (mvT hZ (hw _ (List.mem_of_getElem? (i := 28) rfl))) (by decide) (backOf (W := 2) (rm5 l Z a0 hw [] (4 : Int32) nv vv vD 4 n vn VT h9 n0 sz9 (by decide) hn hv hv6 hV) hZ (hw _ (List.mem_of_getElem? (i := 28) rfl)) (hw _ (List.mem_of_getElem? (i := 27) rfl)) (by decide) (by decide)) (g := (mkF m 116 #[iv vA, iv vB, iv vC, .val (.long vD), .second, iv vW, iv vE, iv nv, iv pv, iv vv, rv b1, un, un, un, un, un, un, un] [(.long vD), (.int vv), (.int nv), (.int (4 : Int32)), (.int (4 : Int32)), (.ref b1)])) rfl (by rw [hml]; rfl) (argsL := [(.int (4 : Int32)), (.int nv), (.int vv), (.long vD)]) (rest := [(.int (4 : Int32)), (.ref b1)]) (lenOf pd_3 rfl) rfl (by show 2 * 0 + _ ≤ _; exact Nat.le_of_eq rfl) (hb hby at_116) (fun _ _ => ⟨rfl, e9, (by decide : (0 + 1) + 0 ≤ _), (by decide : (0 + 12) + 0 ≤ _)⟩)
      dsimp only [Pt.U, Pt.locs, Pt.cells, Pt.slots] at X19 l19 y19 z19 st19 hQ19
      subst l19 y19 z19
      obtain ⟨rl, rfl, N19q, e19, hl1, hl2⟩ := hQ19
      have N19 := Fr.app N9 N19q
      refine Ends.go (fun _ => st19 _) ?_
      show Ends p.tables e below G (T19.setTop (mkF m 119 #[iv vA, iv vB, iv vC, .val (.long vD), .second, iv vW, iv vE, iv nv, iv pv, iv vv, rv b1, un, un, un, un, un, un, un] [(.int rl), (.int (4 : Int32)), (.ref b1)]))
      obtain ⟨T20, h20, X20, e20, W20, V20, st20⟩ := AF.stB V9 X19 hx hZ e19 (j := (4 : Int32)) (i := 4) (by decide) (by decide) (g := (mkF m 119 #[iv vA, iv vB, iv vC, .val (.long vD), .second, iv vW, iv vE, iv nv, iv pv, iv vv, rv b1, un, un, un, un, un, un, un] [(.int rl), (.int (4 : Int32)), (.ref b1)])) rfl rfl (hb hby at_119)
      have f20_V_va := AF.other U9 W20 ne_va_b1
      have f20_T_com_example_belge_belge_SimpleTypes_Base64Check_VALUES := S9.wr W20
      have sz20 := Nat.le_trans sz9 (Nat.le_of_eq W20.size.symm)
      have N20 := Fr.snoc X20 N19 g_b1
      refine Ends.go (fun _ => st20 _) ?_
      show Ends p.tables e below G (T20.setTop (mkF m 120 #[iv vA, iv vB, iv vC, .val (.long vD), .second, iv vW, iv vE, iv nv, iv pv, iv vv, rv b1, un, un, un, un, un, un, un] []))
      exact hd5 _ _ _ (own_up F 4 (nar .byte rl)) (VT (own_ix (nar .byte rl))) X20 e20 N20 sz20 (AF.congr V20 (fun k hk => by simp only [own_up]; split <;> rfl)) f20_V_va f20_T_com_example_belge_belge_SimpleTypes_Base64Check_VALUES (by rw [Nat.min_eq_right (by omega : 5 ≤ n)]; rw [Nat.min_eq_right (by omega : 4 ≤ n)] at hT; exact own_tk_snoc hT (own_stp_run (by rw [own_ixn]; exact hl1))) (fun z => by rw [if_neg (by omega), own_ixn]; exact hl2 (by omega))
    · refine Ends.go (fun _ => XS.icmpYes X9.here hx rfl (pc0 := 104) (pc' := 120) rfl (hb hby at_104) rfl (flt (fun z => k0 ((own_lt (a := 4) rfl hn).mp z) : ¬ ((4 : Int32) < nv))).2.2.2 (by decide) (by decide)) ?_
      show Ends p.tables e below G (T9.setTop (mkF m 120 #[iv vA, iv vB, iv vC, .val (.long vD), .second, iv vW, iv vE, iv nv, iv pv, iv vv, rv b1, un, un, un, un, un, un, un] []))
      exact hd5 _ _ _ F la X9 e9 N9 sz9 V9 U9 S9 (by rw [Nat.min_eq_left (by omega : n ≤ 5)]; rw [Nat.min_eq_left (by omega : n ≤ 4)] at hT; exact hT) (fun _ => hla (by omega))
  have hd3 : ∀ (T9 : State) (L9 : List Loc) (h9 : Heap) (F : Nat → Int32) (la : Int32), Stand p l e room_1 s m #[(.int vA), (.int vB), (.int vC), (.long vD), (.int vW), (.int vE)] below meth c T9 L9 (0 + 1) (0 + 12) → T9.heap = h9 → Fr n0 L9 → n0 ≤ h9.size → AF Z h9 b1 .byte 12 (fun k => .int (F k)) → AF Z h9 va .byte 256 (fun k => .int (VT k)) → Sta Z h9 "com/example/belge/belge/SimpleTypes$Base64Check" "VALUES" "[B" (.ref va) → own_tk VT F (0, 0, 0) 0 (min n 3) = some (min n 3, 0, la) → (n ≤ 3 → la = (if n = 0 then (0 : Int32) else vv)) → Ends p.tables e below G (T9.setTop (mkF m 82 #[iv vA, iv vB, iv vC, .val (.long vD), .second, iv vW, iv vE, iv nv, iv pv, iv vv, rv b1, un, un, un, un, un, un, un] [])) := by
    intro T9 L9 h9 F la X9 e9 N9 sz9 V9 U9 S9 hT hla
    refine Ends.go (fun _ => XS.iload X9.here hx rfl (hb hby at_82) rfl) ?_
    show Ends p.tables e below G (T9.setTop (mkF m 84 #[iv vA, iv vB, iv vC, .val (.long vD), .second, iv vW, iv vE, iv nv, iv pv, iv vv, rv b1, un, un, un, un, un, un, un] [(.int nv)]))
    refine Ends.go (fun _ => XS.iconst X9.here hx rfl (hb hby at_84)) ?_
    show Ends p.tables e below G (T9.setTop (mkF m 85 #[iv vA, iv vB, iv vC, .val (.long vD), .second, iv vW, iv vE, iv nv, iv pv, iv vv, rv b1, un, un, un, un, un, un, un] [(.int (3 : Int32)), (.int nv)]))
    by_cases k0 : 3 < n
    · refine Ends.go (fun _ => XS.icmpNo X9.here hx rfl (hb hby at_85) rfl (tlt ((own_lt (a := 3) rfl hn).mpr k0 : (3 : Int32) < nv)).2.2.2) ?_
      show Ends p.tables e below G (T9.setTop (mkF m 88 #[iv vA, iv vB, iv vC, .val (.long vD), .second, iv vW, iv vE, iv nv, iv pv, iv vv, rv b1, un, un, un, un, un, un, un] []))
      refine Ends.go (fun _ => XS.aload X9.here hx rfl (hb hby at_88) rfl rfl) ?_
      show Ends p.tables e below G (T9.setTop (mkF m 90 #[iv vA, iv vB, iv vC, .val (.long vD), .second, iv vW, iv vE, iv nv, iv pv, iv vv, rv b1, un, un, un, un, un, un, un] [(.ref b1)]))
      refine Ends.go (fun _ => XS.iconst X9.here hx rfl (hb hby at_90)) ?_
      show Ends p.tables e below G (T9.setTop (mkF m 91 #[iv vA, iv vB, iv vC, .val (.long vD), .second, iv vW, iv vE, iv nv, iv pv, iv vv, rv b1, un, un, un, un, un, un, un] [(.int (3 : Int32)), (.ref b1)]))
      refine Ends.go (fun _ => XS.iconst X9.here hx rfl (hb hby at_91)) ?_
      show Ends p.tables e below G (T9.setTop (mkF m 92 #[iv vA, iv vB, iv vC, .val (.long vD), .second, iv vW, iv vE, iv nv, iv pv, iv vv, rv b1, un, un, un, un, un, un, un] [(.int (3 : Int32)), (.int (3 : Int32)), (.ref b1)]))
      refine Ends.go (fun _ => XS.iload X9.here hx rfl (hb hby at_92) rfl) ?_
      show Ends p.tables e below G (T9.setTop (mkF m 94 #[iv vA, iv vB, iv vC, .val (.long vD), .second, iv vW, iv vE, iv nv, iv pv, iv vv, rv b1, un, un, un, un, un, un, un] [(.int nv), (.int (3 : Int32)), (.int (3 : Int32)), (.ref b1)]))
      refine Ends.go (fun _ => XS.iload X9.here hx rfl (hb hby at_94) rfl) ?_
      show Ends p.tables e below G (T9.setTop (mkF m 96 #[iv vA, iv vB, iv vC, .val (.long vD), .second, iv vW, iv vE, iv nv, iv pv, iv vv, rv b1, un, un, un, un, un, un, un] [(.int vv), (.int nv), (.int (3 : Int32)), (.int (3 : Int32)), (.ref b1)]))
      refine Ends.go (fun _ => XS.lloadN X9.here hx rfl (hb hby at_96) rfl) ?_
      show Ends p.tables e below G (T9.setTop (mkF m 97 #[iv vA, iv vB, iv vC, .val (.long vD), .second, iv vW, iv vE, iv nv, iv pv, iv vv, rv b1, un, un, un, un, un, un, un] [(.long vD), (.int vv), (.int nv), (.int (3 : Int32)), (.int (3 : Int32)), (.ref b1)]))
      obtain ⟨_, _, ⟨T21, L21, k21, n21⟩, -, X21, ⟨Lc21, hQ21, l21, y21, z21⟩, st21⟩ := Jvm.LawKit.callS X9 hx (y := (⟨"com/example/belge/belge/Base64CheckIsCompletePinLaw", "letter", "(IIIJ)B"⟩ : MethodName)) hown (mvT hZ (hw _ (List.mem_of_getElem? (i := 25) rfl))) (mvT hZ (hw _ (List.mem_of_getElem? (i := 26) rfl))) (mvT hZ (hw _ (List.mem_of_getElem? (i := 27) rfl))) (mvT hZ (hw _ (List.mem_of_getElem? (i := 28) rfl))) (by decide) (backOf (W := 2) (rm5 l Z a0 hw [] (3 : Int32) nv vv vD 3 n vn VT h9 n0 sz9 (by decide) hn hv hv6 hV) hZ (hw _ (List.mem_of_getElem? (i := 28) rfl)) (hw _ (List.mem_of_getElem? (i := 27) rfl)) (by decide) (by decide)) (g := (mkF m 97 #[iv vA, iv vB, iv vC, .val (.long vD), .second, iv vW, iv vE, iv nv, iv pv, iv vv, rv b1, un, un, un, un, un, un, un] [(.long vD), (.int vv), (.int nv), (.int (3 : Int32)), (.int (3 : Int32)), (.ref b1)])) rfl (by rw [hml]; rfl) (argsL := [(.int (3 : Int32)), (.int nv), (.int vv), (.long vD)]) (rest := [(.int (3 : Int32)), (.ref b1)]) (lenOf pd_3 rfl) rfl (by show 2 * 0 + _ ≤ _; exact Nat.le_of_eq rfl) (hb hby at_97) (fun _ _ => ⟨rfl, e9, (by decide : (0 + 1) + 0 ≤ _), (by decide : (0 + 12) + 0 ≤ _)⟩)
      dsimp only [Pt.U, Pt.locs, Pt.cells, Pt.slots] at X21 l21 y21 z21 st21 hQ21
      subst l21 y21 z21
      obtain ⟨rl, rfl, N21q, e21, hl1, hl2⟩ := hQ21
      have N21 := Fr.app N9 N21q
      refine Ends.go (fun _ => st21 _) ?_
      show Ends p.tables e below G (T21.setTop (mkF m 100 #[iv vA, iv vB, iv vC, .val (.long vD), .second, iv vW, iv vE, iv nv, iv pv, iv vv, rv b1, un, un, un, un, un, un, un] [(.int rl), (.int (3 : Int32)), (.ref b1)]))
      obtain ⟨T22, h22, X22, e22, W22, V22, st22⟩ := AF.stB V9 X21 hx hZ e21 (j := (3 : Int32)) (i := 3) (by decide) (by decide) (g := (mkF m 100 #[iv vA, iv vB, iv vC, .val (.long vD), .second, iv vW, iv vE, iv nv, iv pv, iv vv, rv b1, un, un, un, un, un, un, un] [(.int rl), (.int (3 : Int32)), (.ref b1)])) rfl rfl (hb hby at_100)
      have f22_V_va := AF.other U9 W22 ne_va_b1
      have f22_T_com_example_belge_belge_SimpleTypes_Base64Check_VALUES := S9.wr W22
      have sz22 := Nat.le_trans sz9 (Nat.le_of_eq W22.size.symm)
      have N22 := Fr.snoc X22 N21 g_b1
      refine Ends.go (fun _ => st22 _) ?_
      show Ends p.tables e below G (T22.setTop (mkF m 101 #[iv vA, iv vB, iv vC, .val (.long vD), .second, iv vW, iv vE, iv nv, iv pv, iv vv, rv b1, un, un, un, un, un, un, un] []))
      exact hd4 _ _ _ (own_up F 3 (nar .byte rl)) (VT (own_ix (nar .byte rl))) X22 e22 N22 sz22 (AF.congr V22 (fun k hk => by simp only [own_up]; split <;> rfl)) f22_V_va f22_T_com_example_belge_belge_SimpleTypes_Base64Check_VALUES (by rw [Nat.min_eq_right (by omega : 4 ≤ n)]; rw [Nat.min_eq_right (by omega : 3 ≤ n)] at hT; exact own_tk_snoc hT (own_stp_run (by rw [own_ixn]; exact hl1))) (fun z => by rw [if_neg (by omega), own_ixn]; exact hl2 (by omega))
    · refine Ends.go (fun _ => XS.icmpYes X9.here hx rfl (pc0 := 85) (pc' := 101) rfl (hb hby at_85) rfl (flt (fun z => k0 ((own_lt (a := 3) rfl hn).mp z) : ¬ ((3 : Int32) < nv))).2.2.2 (by decide) (by decide)) ?_
      show Ends p.tables e below G (T9.setTop (mkF m 101 #[iv vA, iv vB, iv vC, .val (.long vD), .second, iv vW, iv vE, iv nv, iv pv, iv vv, rv b1, un, un, un, un, un, un, un] []))
      exact hd4 _ _ _ F la X9 e9 N9 sz9 V9 U9 S9 (by rw [Nat.min_eq_left (by omega : n ≤ 4)]; rw [Nat.min_eq_left (by omega : n ≤ 3)] at hT; exact hT) (fun _ => hla (by omega))
  have hd2 : ∀ (T9 : State) (L9 : List Loc) (h9 : Heap) (F : Nat → Int32) (la : Int32), Stand p l e room_1 s m #[(.int vA), (.int vB), (.int vC), (.long vD), (.int vW), (.int vE)] below meth c T9 L9 (0 + 1) (0 + 12) → T9.heap = h9 → Fr n0 L9 → n0 ≤ h9.size → AF Z h9 b1 .byte 12 (fun k => .int (F k)) → AF Z h9 va .byte 256 (fun k => .int (VT k)) → Sta Z h9 "com/example/belge/belge/SimpleTypes$Base64Check" "VALUES" "[B" (.ref va) → own_tk VT F (0, 0, 0) 0 (min n 2) = some (min n 2, 0, la) → (n ≤ 2 → la = (if n = 0 then (0 : Int32) else vv)) → Ends p.tables e below G (T9.setTop (mkF m 63 #[iv vA, iv vB, iv vC, .val (.long vD), .second, iv vW, iv vE, iv nv, iv pv, iv vv, rv b1, un, un, un, un, un, un, un] [])) := by
    intro T9 L9 h9 F la X9 e9 N9 sz9 V9 U9 S9 hT hla
    refine Ends.go (fun _ => XS.iload X9.here hx rfl (hb hby at_63) rfl) ?_
    show Ends p.tables e below G (T9.setTop (mkF m 65 #[iv vA, iv vB, iv vC, .val (.long vD), .second, iv vW, iv vE, iv nv, iv pv, iv vv, rv b1, un, un, un, un, un, un, un] [(.int nv)]))
    refine Ends.go (fun _ => XS.iconst X9.here hx rfl (hb hby at_65)) ?_
    show Ends p.tables e below G (T9.setTop (mkF m 66 #[iv vA, iv vB, iv vC, .val (.long vD), .second, iv vW, iv vE, iv nv, iv pv, iv vv, rv b1, un, un, un, un, un, un, un] [(.int (2 : Int32)), (.int nv)]))
    by_cases k0 : 2 < n
    · refine Ends.go (fun _ => XS.icmpNo X9.here hx rfl (hb hby at_66) rfl (tlt ((own_lt (a := 2) rfl hn).mpr k0 : (2 : Int32) < nv)).2.2.2) ?_
      show Ends p.tables e below G (T9.setTop (mkF m 69 #[iv vA, iv vB, iv vC, .val (.long vD), .second, iv vW, iv vE, iv nv, iv pv, iv vv, rv b1, un, un, un, un, un, un, un] []))
      refine Ends.go (fun _ => XS.aload X9.here hx rfl (hb hby at_69) rfl rfl) ?_
      show Ends p.tables e below G (T9.setTop (mkF m 71 #[iv vA, iv vB, iv vC, .val (.long vD), .second, iv vW, iv vE, iv nv, iv pv, iv vv, rv b1, un, un, un, un, un, un, un] [(.ref b1)]))
      refine Ends.go (fun _ => XS.iconst X9.here hx rfl (hb hby at_71)) ?_
      show Ends p.tables e below G (T9.setTop (mkF m 72 #[iv vA, iv vB, iv vC, .val (.long vD), .second, iv vW, iv vE, iv nv, iv pv, iv vv, rv b1, un, un, un, un, un, un, un] [(.int (2 : Int32)), (.ref b1)]))
      refine Ends.go (fun _ => XS.iconst X9.here hx rfl (hb hby at_72)) ?_
      show Ends p.tables e below G (T9.setTop (mkF m 73 #[iv vA, iv vB, iv vC, .val (.long vD), .second, iv vW, iv vE, iv nv, iv pv, iv vv, rv b1, un, un, un, un, un, un, un] [(.int (2 : Int32)), (.int (2 : Int32)), (.ref b1)]))
      refine Ends.go (fun _ => XS.iload X9.here hx rfl (hb hby at_73) rfl) ?_
      show Ends p.tables e below G (T9.setTop (mkF m 75 #[iv vA, iv vB, iv vC, .val (.long vD), .second, iv vW, iv vE, iv nv, iv pv, iv vv, rv b1, un, un, un, un, un, un, un] [(.int nv), (.int (2 : Int32)), (.int (2 : Int32)), (.ref b1)]))
      refine Ends.go (fun _ => XS.iload X9.here hx rfl (hb hby at_75) rfl) ?_
      show Ends p.tables e below G (T9.setTop (mkF m 77 #[iv vA, iv vB, iv vC, .val (.long vD), .second, iv vW, iv vE, iv nv, iv pv, iv vv, rv b1, un, un, un, un, un, un, un] [(.int vv), (.int nv), (.int (2 : Int32)), (.int (2 : Int32)), (.ref b1)]))
      refine Ends.go (fun _ => XS.lloadN X9.here hx rfl (hb hby at_77) rfl) ?_
      show Ends p.tables e below G (T9.setTop (mkF m 78 #[iv vA, iv vB, iv vC, .val (.long vD), .second, iv vW, iv vE, iv nv, iv pv, iv vv, rv b1, un, un, un, un, un, un, un] [(.long vD), (.int vv), (.int nv), (.int (2 : Int32)), (.int (2 : Int32)), (.ref b1)]))
      obtain ⟨_, _, ⟨T23, L23, k23, n23⟩, -, X23, ⟨Lc23, hQ23, l23, y23, z23⟩, st23⟩ := Jvm.LawKit.callS X9 hx (y := (⟨"com/example/belge/belge/Base64CheckIsCompletePinLaw", "letter", "(IIIJ)B"⟩ : MethodName)) hown (mvT hZ (hw _ (List.mem_of_getElem? (i := 25) rfl))) (mvT hZ (hw _ (List.mem_of_getElem? (i := 26) rfl))) (mvT hZ (hw _ (List.mem_of_getElem? (i := 27) rfl))) (mvT hZ (hw _ (List.mem_of_getElem? (i := 28) rfl))) (by decide) (backOf (W := 2) (rm5 l Z a0 hw [] (2 : Int32) nv vv vD 2 n vn VT h9 n0 sz9 (by decide) hn hv hv6 hV) hZ (hw _ (List.mem_of_getElem? (i := 28) rfl)) (hw _ (List.mem_of_getElem? (i := 27) rfl)) (by decide) (by decide)) (g := (mkF m 78 #[iv vA, iv vB, iv vC, .val (.long vD), .second, iv vW, iv vE, iv nv, iv pv, iv vv, rv b1, un, un, un, un, un, un, un] [(.long vD), (.int vv), (.int nv), (.int (2 : Int32)), (.int (2 : Int32)), (.ref b1)])) rfl (by rw [hml]; rfl) (argsL := [(.int (2 : Int32)), (.int nv), (.int vv), (.long vD)]) (rest := [(.int (2 : Int32)), (.ref b1)]) (lenOf pd_3 rfl) rfl (by show 2 * 0 + _ ≤ _; exact Nat.le_of_eq rfl) (hb hby at_78) (fun _ _ => ⟨rfl, e9, (by decide : (0 + 1) + 0 ≤ _), (by decide : (0 + 12) + 0 ≤ _)⟩)
      dsimp only [Pt.U, Pt.locs, Pt.cells, Pt.slots] at X23 l23 y23 z23 st23 hQ23
      subst l23 y23 z23
      obtain ⟨rl, rfl, N23q, e23, hl1, hl2⟩ := hQ23
      have N23 := Fr.app N9 N23q
      refine Ends.go (fun _ => st23 _) ?_
      show Ends p.tables e below G (T23.setTop (mkF m 81 #[iv vA, iv vB, iv vC, .val (.long vD), .second, iv vW, iv vE, iv nv, iv pv, iv vv, rv b1, un, un, un, un, un, un, un] [(.int rl), (.int (2 : Int32)), (.ref b1)]))
      obtain ⟨T24, h24, X24, e24, W24, V24, st24⟩ := AF.stB V9 X23 hx hZ e23 (j := (2 : Int32)) (i := 2) (by decide) (by decide) (g := (mkF m 81 #[iv vA, iv vB, iv vC, .val (.long vD), .second, iv vW, iv vE, iv nv, iv pv, iv vv, rv b1, un, un, un, un, un, un, un] [(.int rl), (.int (2 : Int32)), (.ref b1)])) rfl rfl (hb hby at_81)
      have f24_V_va := AF.other U9 W24 ne_va_b1
      have f24_T_com_example_belge_belge_SimpleTypes_Base64Check_VALUES := S9.wr W24
      have sz24 := Nat.le_trans sz9 (Nat.le_of_eq W24.size.symm)
      have N24 := Fr.snoc X24 N23 g_b1
      refine Ends.go (fun _ => st24 _) ?_
      show Ends p.tables e below G (T24.setTop (mkF m 82 #[iv vA, iv vB, iv vC, .val (.long vD), .second, iv vW, iv vE, iv nv, iv pv, iv vv, rv b1, un, un, un, un, un, un, un] []))
      exact hd3 _ _ _ (own_up F 2 (nar .byte rl)) (VT (own_ix (nar .byte rl))) X24 e24 N24 sz24 (AF.congr V24 (fun k hk => by simp only [own_up]; split <;> rfl)) f24_V_va f24_T_com_example_belge_belge_SimpleTypes_Base64Check_VALUES (by rw [Nat.min_eq_right (by omega : 3 ≤ n)]; rw [Nat.min_eq_right (by omega : 2 ≤ n)] at hT; exact own_tk_snoc hT (own_stp_run (by rw [own_ixn]; exact hl1))) (fun z => by rw [if_neg (by omega), own_ixn]; exact hl2 (by omega))
    · refine Ends.go (fun _ => XS.icmpYes X9.here hx rfl (pc0 := 66) (pc' := 82) rfl (hb hby at_66) rfl (flt (fun z => k0 ((own_lt (a := 2) rfl hn).mp z) : ¬ ((2 : Int32) < nv))).2.2.2 (by decide) (by decide)) ?_
      show Ends p.tables e below G (T9.setTop (mkF m 82 #[iv vA, iv vB, iv vC, .val (.long vD), .second, iv vW, iv vE, iv nv, iv pv, iv vv, rv b1, un, un, un, un, un, un, un] []))
      exact hd3 _ _ _ F la X9 e9 N9 sz9 V9 U9 S9 (by rw [Nat.min_eq_left (by omega : n ≤ 3)]; rw [Nat.min_eq_left (by omega : n ≤ 2)] at hT; exact hT) (fun _ => hla (by omega))
  have hd1 : ∀ (T9 : State) (L9 : List Loc) (h9 : Heap) (F : Nat → Int32) (la : Int32), Stand p l e room_1 s m #[(.int vA), (.int vB), (.int vC), (.long vD), (.int vW), (.int vE)] below meth c T9 L9 (0 + 1) (0 + 12) → T9.heap = h9 → Fr n0 L9 → n0 ≤ h9.size → AF Z h9 b1 .byte 12 (fun k => .int (F k)) → AF Z h9 va .byte 256 (fun k => .int (VT k)) → Sta Z h9 "com/example/belge/belge/SimpleTypes$Base64Check" "VALUES" "[B" (.ref va) → own_tk VT F (0, 0, 0) 0 (min n 1) = some (min n 1, 0, la) → (n ≤ 1 → la = (if n = 0 then (0 : Int32) else vv)) → Ends p.tables e below G (T9.setTop (mkF m 44 #[iv vA, iv vB, iv vC, .val (.long vD), .second, iv vW, iv vE, iv nv, iv pv, iv vv, rv b1, un, un, un, un, un, un, un] [])) := by
    intro T9 L9 h9 F la X9 e9 N9 sz9 V9 U9 S9 hT hla
    refine Ends.go (fun _ => XS.iload X9.here hx rfl (hb hby at_44) rfl) ?_
    show Ends p.tables e below G (T9.setTop (mkF m 46 #[iv vA, iv vB, iv vC, .val (.long vD), .second, iv vW, iv vE, iv nv, iv pv, iv vv, rv b1, un, un, un, un, un, un, un] [(.int nv)]))
    refine Ends.go (fun _ => XS.iconst X9.here hx rfl (hb hby at_46)) ?_
    show Ends p.tables e below G (T9.setTop (mkF m 47 #[iv vA, iv vB, iv vC, .val (.long vD), .second, iv vW, iv vE, iv nv, iv pv, iv vv, rv b1, un, un, un, un, un, un, un] [(.int (1 : Int32)), (.int nv)]))
    by_cases k0 : 1 < n
    · refine Ends.go (fun _ => XS.icmpNo X9.here hx rfl (hb hby at_47) rfl (tlt ((own_lt (a := 1) rfl hn).mpr k0 : (1 : Int32) < nv)).2.2.2) ?_
      show Ends p.tables e below G (T9.setTop (mkF m 50 #[iv vA, iv vB, iv vC, .val (.long vD), .second, iv vW, iv vE, iv nv, iv pv, iv vv, rv b1, un, un, un, un, un, un, un] []))
      refine Ends.go (fun _ => XS.aload X9.here hx rfl (hb hby at_50) rfl rfl) ?_
      show Ends p.tables e below G (T9.setTop (mkF m 52 #[iv vA, iv vB, iv vC, .val (.long vD), .second, iv vW, iv vE, iv nv, iv pv, iv vv, rv b1, un, un, un, un, un, un, un] [(.ref b1)]))
      refine Ends.go (fun _ => XS.iconst X9.here hx rfl (hb hby at_52)) ?_
      show Ends p.tables e below G (T9.setTop (mkF m 53 #[iv vA, iv vB, iv vC, .val (.long vD), .second, iv vW, iv vE, iv nv, iv pv, iv vv, rv b1, un, un, un, un, un, un, un] [(.int (1 : Int32)), (.ref b1)]))
      refine Ends.go (fun _ => XS.iconst X9.here hx rfl (hb hby at_53)) ?_
      show Ends p.tables e below G (T9.setTop (mkF m 54 #[iv vA, iv vB, iv vC, .val (.long vD), .second, iv vW, iv vE, iv nv, iv pv, iv vv, rv b1, un, un, un, un, un, un, un] [(.int (1 : Int32)), (.int (1 : Int32)), (.ref b1)]))
      refine Ends.go (fun _ => XS.iload X9.here hx rfl (hb hby at_54) rfl) ?_
      show Ends p.tables e below G (T9.setTop (mkF m 56 #[iv vA, iv vB, iv vC, .val (.long vD), .second, iv vW, iv vE, iv nv, iv pv, iv vv, rv b1, un, un, un, un, un, un, un] [(.int nv), (.int (1 : Int32)), (.int (1 : Int32)), (.ref b1)]))
      refine Ends.go (fun _ => XS.iload X9.here hx rfl (hb hby at_56) rfl) ?_
      show Ends p.tables e below G (T9.setTop (mkF m 58 #[iv vA, iv vB, iv vC, .val (.long vD), .second, iv vW, iv vE, iv nv, iv pv, iv vv, rv b1, un, un, un, un, un, un, un] [(.int vv), (.int nv), (.int (1 : Int32)), (.int (1 : Int32)), (.ref b1)]))
      refine Ends.go (fun _ => XS.lloadN X9.here hx rfl (hb hby at_58) rfl) ?_
      show Ends p.tables e below G (T9.setTop (mkF m 59 #[iv vA, iv vB, iv vC, .val (.long vD), .second, iv vW, iv vE, iv nv, iv pv, iv vv, rv b1, un, un, un, un, un, un, un] [(.long vD), (.int vv), (.int nv), (.int (1 : Int32)), (.int (1 : Int32)), (.ref b1)]))
      obtain ⟨_, _, ⟨T25, L25, k25, n25⟩, -, X25, ⟨Lc25, hQ25, l25, y25, z25⟩, st25⟩ := Jvm.LawKit.callS X9 hx (y := (⟨"com/example/belge/belge/Base64CheckIsCompletePinLaw", "letter", "(IIIJ)B"⟩ : MethodName)) hown (mvT hZ (hw _ (List.mem_of_getElem? (i := 25) rfl))) (mvT hZ (hw _ (List.mem_of_getElem? (i := 26) rfl))) (mvT hZ (hw _ (List.mem_of_getElem? (i := 27) rfl))) (mvT hZ (hw _ (List.mem_of_getElem? (i := 28) rfl))) (by decide) (backOf (W := 2) (rm5 l Z a0 hw [] (1 : Int32) nv vv vD 1 n vn VT h9 n0 sz9 (by decide) hn hv hv6 hV) hZ (hw _ (List.mem_of_getElem? (i := 28) rfl)) (hw _ (List.mem_of_getElem? (i := 27) rfl)) (by decide) (by decide)) (g := (mkF m 59 #[iv vA, iv vB, iv vC, .val (.long vD), .second, iv vW, iv vE, iv nv, iv pv, iv vv, rv b1, un, un, un, un, un, un, un] [(.long vD), (.int vv), (.int nv), (.int (1 : Int32)), (.int (1 : Int32)), (.ref b1)])) rfl (by rw [hml]; rfl) (argsL := [(.int (1 : Int32)), (.int nv), (.int vv), (.long vD)]) (rest := [(.int (1 : Int32)), (.ref b1)]) (lenOf pd_3 rfl) rfl (by show 2 * 0 + _ ≤ _; exact Nat.le_of_eq rfl) (hb hby at_59) (fun _ _ => ⟨rfl, e9, (by decide : (0 + 1) + 0 ≤ _), (by decide : (0 + 12) + 0 ≤ _)⟩)
      dsimp only [Pt.U, Pt.locs, Pt.cells, Pt.slots] at X25 l25 y25 z25 st25 hQ25
      subst l25 y25 z25
      obtain ⟨rl, rfl, N25q, e25, hl1, hl2⟩ := hQ25
      have N25 := Fr.app N9 N25q
      refine Ends.go (fun _ => st25 _) ?_
      show Ends p.tables e below G (T25.setTop (mkF m 62 #[iv vA, iv vB, iv vC, .val (.long vD), .second, iv vW, iv vE, iv nv, iv pv, iv vv, rv b1, un, un, un, un, un, un, un] [(.int rl), (.int (1 : Int32)), (.ref b1)]))
      obtain ⟨T26, h26, X26, e26, W26, V26, st26⟩ := AF.stB V9 X25 hx hZ e25 (j := (1 : Int32)) (i := 1) (by decide) (by decide) (g := (mkF m 62 #[iv vA, iv vB, iv vC, .val (.long vD), .second, iv vW, iv vE, iv nv, iv pv, iv vv, rv b1, un, un, un, un, un, un, un] [(.int rl), (.int (1 : Int32)), (.ref b1)])) rfl rfl (hb hby at_62)
      have f26_V_va := AF.other U9 W26 ne_va_b1
      have f26_T_com_example_belge_belge_SimpleTypes_Base64Check_VALUES := S9.wr W26
      have sz26 := Nat.le_trans sz9 (Nat.le_of_eq W26.size.symm)
      have N26 := Fr.snoc X26 N25 g_b1
      refine Ends.go (fun _ => st26 _) ?_
      show Ends p.tables e below G (T26.setTop (mkF m 63 #[iv vA, iv vB, iv vC, .val (.long vD), .second, iv vW, iv vE, iv nv, iv pv, iv vv, rv b1, un, un, un, un, un, un, un] []))
      exact hd2 _ _ _ (own_up F 1 (nar .byte rl)) (VT (own_ix (nar .byte rl))) X26 e26 N26 sz26 (AF.congr V26 (fun k hk => by simp only [own_up]; split <;> rfl)) f26_V_va f26_T_com_example_belge_belge_SimpleTypes_Base64Check_VALUES (by rw [Nat.min_eq_right (by omega : 2 ≤ n)]; rw [Nat.min_eq_right (by omega : 1 ≤ n)] at hT; exact own_tk_snoc hT (own_stp_run (by rw [own_ixn]; exact hl1))) (fun z => by rw [if_neg (by omega), own_ixn]; exact hl2 (by omega))
    · refine Ends.go (fun _ => XS.icmpYes X9.here hx rfl (pc0 := 47) (pc' := 63) rfl (hb hby at_47) rfl (flt (fun z => k0 ((own_lt (a := 1) rfl hn).mp z) : ¬ ((1 : Int32) < nv))).2.2.2 (by decide) (by decide)) ?_
      show Ends p.tables e below G (T9.setTop (mkF m 63 #[iv vA, iv vB, iv vC, .val (.long vD), .second, iv vW, iv vE, iv nv, iv pv, iv vv, rv b1, un, un, un, un, un, un, un] []))
      exact hd2 _ _ _ F la X9 e9 N9 sz9 V9 U9 S9 (by rw [Nat.min_eq_left (by omega : n ≤ 2)]; rw [Nat.min_eq_left (by omega : n ≤ 1)] at hT; exact hT) (fun _ => hla (by omega))
  have hd0 : ∀ (T9 : State) (L9 : List Loc) (h9 : Heap) (F : Nat → Int32) (la : Int32), Stand p l e room_1 s m #[(.int vA), (.int vB), (.int vC), (.long vD), (.int vW), (.int vE)] below meth c T9 L9 (0 + 1) (0 + 12) → T9.heap = h9 → Fr n0 L9 → n0 ≤ h9.size → AF Z h9 b1 .byte 12 (fun k => .int (F k)) → AF Z h9 va .byte 256 (fun k => .int (VT k)) → Sta Z h9 "com/example/belge/belge/SimpleTypes$Base64Check" "VALUES" "[B" (.ref va) → own_tk VT F (0, 0, 0) 0 (min n 0) = some (min n 0, 0, la) → (n ≤ 0 → la = (if n = 0 then (0 : Int32) else vv)) → Ends p.tables e below G (T9.setTop (mkF m 26 #[iv vA, iv vB, iv vC, .val (.long vD), .second, iv vW, iv vE, iv nv, iv pv, iv vv, rv b1, un, un, un, un, un, un, un] [])) := by
    intro T9 L9 h9 F la X9 e9 N9 sz9 V9 U9 S9 hT hla
    refine Ends.go (fun _ => XS.iload X9.here hx rfl (hb hby at_26) rfl) ?_
    show Ends p.tables e below G (T9.setTop (mkF m 28 #[iv vA, iv vB, iv vC, .val (.long vD), .second, iv vW, iv vE, iv nv, iv pv, iv vv, rv b1, un, un, un, un, un, un, un] [(.int nv)]))
    by_cases k0 : 0 < n
    · refine Ends.go (fun _ => XS.ifNo X9.here hx rfl (hb hby at_28) rfl ((if0 _ _).trans (tlt ((own_lt (a := 0) rfl hn).mpr k0 : (0 : Int32) < nv)).2.2.2)) ?_
      show Ends p.tables e below G (T9.setTop (mkF m 31 #[iv vA, iv vB, iv vC, .val (.long vD), .second, iv vW, iv vE, iv nv, iv pv, iv vv, rv b1, un, un, un, un, un, un, un] []))
      refine Ends.go (fun _ => XS.aload X9.here hx rfl (hb hby at_31) rfl rfl) ?_
      show Ends p.tables e below G (T9.setTop (mkF m 33 #[iv vA, iv vB, iv vC, .val (.long vD), .second, iv vW, iv vE, iv nv, iv pv, iv vv, rv b1, un, un, un, un, un, un, un] [(.ref b1)]))
      refine Ends.go (fun _ => XS.iconst X9.here hx rfl (hb hby at_33)) ?_
      show Ends p.tables e below G (T9.setTop (mkF m 34 #[iv vA, iv vB, iv vC, .val (.long vD), .second, iv vW, iv vE, iv nv, iv pv, iv vv, rv b1, un, un, un, un, un, un, un] [(.int (0 : Int32)), (.ref b1)]))
      refine Ends.go (fun _ => XS.iconst X9.here hx rfl (hb hby at_34)) ?_
      show Ends p.tables e below G (T9.setTop (mkF m 35 #[iv vA, iv vB, iv vC, .val (.long vD), .second, iv vW, iv vE, iv nv, iv pv, iv vv, rv b1, un, un, un, un, un, un, un] [(.int (0 : Int32)), (.int (0 : Int32)), (.ref b1)]))
      refine Ends.go (fun _ => XS.iload X9.here hx rfl (hb hby at_35) rfl) ?_
      show Ends p.tables e below G (T9.setTop (mkF m 37 #[iv vA, iv vB, iv vC, .val (.long vD), .second, iv vW, iv vE, iv nv, iv pv, iv vv, rv b1, un, un, un, un, un, un, un] [(.int nv), (.int (0 : Int32)), (.int (0 : Int32)), (.ref b1)]))
      refine Ends.go (fun _ => XS.iload X9.here hx rfl (hb hby at_37) rfl) ?_
      show Ends p.tables e below G (T9.setTop (mkF m 39 #[iv vA, iv vB, iv vC, .val (.long vD), .second, iv vW, iv vE, iv nv, iv pv, iv vv, rv b1, un, un, un, un, un, un, un] [(.int vv), (.int nv), (.int (0 : Int32)), (.int (0 : Int32)), (.ref b1)]))
      refine Ends.go (fun _ => XS.lloadN X9.here hx rfl (hb hby at_39) rfl) ?_
      show Ends p.tables e below G (T9.setTop (mkF m 40 #[iv vA, iv vB, iv vC, .val (.long vD), .second, iv vW, iv vE, iv nv, iv pv, iv vv, rv b1, un, un, un, un, un, un, un] [(.long vD), (.int vv), (.int nv), (.int (0 : Int32)), (.int (0 : Int32)), (.ref b1)]))
      obtain ⟨_, _, ⟨T27, L27, k27, n27⟩, -, X27, ⟨Lc27, hQ27, l27, y27, z27⟩, st27⟩ := Jvm.LawKit.callS X9 hx (y := (⟨"com/example/belge/belge/Base64CheckIsCompletePinLaw", "letter", "(IIIJ)B"⟩ : MethodName)) hown (mvT hZ (hw _ (List.mem_of_getElem? (i := 25) rfl))) (mvT hZ (hw _ (List.mem_of_getElem? (i := 26) rfl))) (mvT hZ (hw _ (List.mem_of_getElem? (i := 27) rfl))) (mvT hZ (hw _ (List.mem_of_getElem? (i := 28) rfl))) (by decide) (backOf (W := 2) (rm5 l Z a0 hw [] (0 : Int32) nv vv vD 0 n vn VT h9 n0 sz9 (by decide) hn hv hv6 hV) hZ (hw _ (List.mem_of_getElem? (i := 28) rfl)) (hw _ (List.mem_of_getElem? (i := 27) rfl)) (by decide) (by decide)) (g := (mkF m 40 #[iv vA, iv vB, iv vC, .val (.long vD), .second, iv vW, iv vE, iv nv, iv pv, iv vv, rv b1, un, un, un, un, un, un, un] [(.long vD), (.int vv), (.int nv), (.int (0 : Int32)), (.int (0 : Int32)), (.ref b1)])) rfl (by rw [hml]; rfl) (argsL := [(.int (0 : Int32)), (.int nv), (.int vv), (.long vD)]) (rest := [(.int (0 : Int32)), (.ref b1)]) (lenOf pd_3 rfl) rfl (by show 2 * 0 + _ ≤ _; exact Nat.le_of_eq rfl) (hb hby at_40) (fun _ _ => ⟨rfl, e9, (by decide : (0 + 1) + 0 ≤ _), (by decide : (0 + 12) + 0 ≤ _)⟩)
      dsimp only [Pt.U, Pt.locs, Pt.cells, Pt.slots] at X27 l27 y27 z27 st27 hQ27
      subst l27 y27 z27
      obtain ⟨rl, rfl, N27q, e27, hl1, hl2⟩ := hQ27
      have N27 := Fr.app N9 N27q
      refine Ends.go (fun _ => st27 _) ?_
      show Ends p.tables e below G (T27.setTop (mkF m 43 #[iv vA, iv vB, iv vC, .val (.long vD), .second, iv vW, iv vE, iv nv, iv pv, iv vv, rv b1, un, un, un, un, un, un, un] [(.int rl), (.int (0 : Int32)), (.ref b1)]))
      obtain ⟨T28, h28, X28, e28, W28, V28, st28⟩ := AF.stB V9 X27 hx hZ e27 (j := (0 : Int32)) (i := 0) (by decide) (by decide) (g := (mkF m 43 #[iv vA, iv vB, iv vC, .val (.long vD), .second, iv vW, iv vE, iv nv, iv pv, iv vv, rv b1, un, un, un, un, un, un, un] [(.int rl), (.int (0 : Int32)), (.ref b1)])) rfl rfl (hb hby at_43)
      have f28_V_va := AF.other U9 W28 ne_va_b1
      have f28_T_com_example_belge_belge_SimpleTypes_Base64Check_VALUES := S9.wr W28
      have sz28 := Nat.le_trans sz9 (Nat.le_of_eq W28.size.symm)
      have N28 := Fr.snoc X28 N27 g_b1
      refine Ends.go (fun _ => st28 _) ?_
      show Ends p.tables e below G (T28.setTop (mkF m 44 #[iv vA, iv vB, iv vC, .val (.long vD), .second, iv vW, iv vE, iv nv, iv pv, iv vv, rv b1, un, un, un, un, un, un, un] []))
      exact hd1 _ _ _ (own_up F 0 (nar .byte rl)) (VT (own_ix (nar .byte rl))) X28 e28 N28 sz28 (AF.congr V28 (fun k hk => by simp only [own_up]; split <;> rfl)) f28_V_va f28_T_com_example_belge_belge_SimpleTypes_Base64Check_VALUES (by rw [Nat.min_eq_right (by omega : 1 ≤ n)]; rw [Nat.min_eq_right (by omega : 0 ≤ n)] at hT; exact own_tk_snoc hT (own_stp_run (by rw [own_ixn]; exact hl1))) (fun z => by rw [if_neg (by omega), own_ixn]; exact hl2 (by omega))
    · refine Ends.go (fun _ => XS.ifYes X9.here hx rfl (pc0 := 28) (pc' := 44) rfl (hb hby at_28) rfl ((if0 _ _).trans (flt (fun z => k0 ((own_lt (a := 0) rfl hn).mp z) : ¬ ((0 : Int32) < nv))).2.2.2) (by decide) (by decide)) ?_
      show Ends p.tables e below G (T9.setTop (mkF m 44 #[iv vA, iv vB, iv vC, .val (.long vD), .second, iv vW, iv vE, iv nv, iv pv, iv vv, rv b1, un, un, un, un, un, un, un] []))
      exact hd1 _ _ _ F la X9 e9 N9 sz9 V9 U9 S9 (by rw [Nat.min_eq_left (by omega : n ≤ 1)]; rw [Nat.min_eq_left (by omega : n ≤ 0)] at hT; exact hT) (fun _ => hla (by omega))
  exact hd0 _ _ _ (fun _ => 0) 0 X1 e1 N0 sz1 V1 f1_V_va f1_T_com_example_belge_belge_SimpleTypes_Base64Check_VALUES (by rw [Nat.min_zero]; rfl) (fun z => by rw [if_pos (by omega)])
theorem own_or {args : Array Value} {s : State} {idx : List Nat} {c d : Jvm.Cond} (h1 : (Jvm.Cond.or c d).value args s none s idx = some true) (h2 : c.value args s none s idx = some false) : d.value args s none s idx = some true := by
  rwa [Cond.or_of_right h2] at h1
def own_ev (c : Cell) (k : Nat) : Int32 := match c.slots[k]? with
  | some (.int x) => x
  | _ => 0
theorem own_ev_at {c : Cell} {k : Nat} {x : Int32} (h : c.slots[k]? = some (.int x)) : own_ev c k = x := by simp [own_ev, h]
theorem own_alen {s : State} {args : Array Value} {t : Jvm.Term} {va : Addr} {c : Cell} (ev : t.eval args s none [] s = some (.ref va)) (hA : s.arrayAt? va = some c) (hlen : (Jvm.Term.length t).eval args s none [] s = some (.int 256)) : c.slots.size = 256 := by
  simp only [Term.eval, ev, hA, Option.bind_eq_bind, Option.bind_some] at hlen
  by_cases h31 : c.slots.size < 2 ^ 31
  · rw [if_pos h31] at hlen
    have h2 : c.slots.size.toInt32 = 256 := Value.int.inj (Option.some.inj hlen)
    have h3 := congrArg Int32.toInt h2
    rw [len_toInt h31] at h3
    have h4 : (256 : Int32).toInt = 256 := rfl
    omega
  · rw [if_neg h31] at hlen; cases hlen
set_option maxRecDepth 65536 in
set_option maxHeartbeats 4000000 in
theorem own_values {s : State} {args : Array Value} (hf : Fit s) (hw : ∀ d ∈ tables_1, d.before args s = true) (hn : narrow_1.value args s none s [] = some true) : ∃ (va : Addr) (VT : Nat → Int32), AF s s.heap va .byte 256 (fun k => .int (VT k)) ∧ Sta s s.heap "com/example/belge/belge/SimpleTypes$Base64Check" "VALUES" "[B" (.ref va) ∧ VTok VT := by
  obtain ⟨n1, hn⟩ := and_e hn
  obtain ⟨n2, hn⟩ := and_e hn
  obtain ⟨n3, hn⟩ := and_e hn
  obtain ⟨n4, hn⟩ := and_e hn
  obtain ⟨n5, hn⟩ := and_e hn
  obtain ⟨n6, hn⟩ := and_e hn
  obtain ⟨n7, hn⟩ := and_e hn
  obtain ⟨n8, hn⟩ := and_e hn
  obtain ⟨n9, hn⟩ := and_e hn
  obtain ⟨n10, hn⟩ := and_e hn
  obtain ⟨n11, hn⟩ := and_e hn
  obtain ⟨n12, hn⟩ := and_e hn
  obtain ⟨n13, n14⟩ := and_e hn
  obtain ⟨va, ev⟩ := arr_v n1
  obtain ⟨c, A⟩ := Arr.start ev n1
  have hA : s.arrayAt? va = some c := A.fin (Vm.Alike.refl _)
  have evi : ∀ idx, (Jvm.Term.static "com/example/belge/belge/SimpleTypes$Base64Check" "VALUES" "[B").eval args s none idx s = some (.ref va) := fun idx => ev
  have hlen := eqv_i (Term.int_eval 256) n2
  have hsz : c.slots.size = 256 := own_alen ev hA hlen
  have hx : ∀ k, k < 256 → ∃ x, c.slots[k]? = some (.int x) := fun k hk => by
    have e1 : (Nat.toInt32 k).toNatClampNeg = k := by simp only [Int32.toNatClampNeg, len_toInt (show k < 2 ^ 31 by omega)]; rfl
    obtain ⟨v, h1, h2⟩ := elem_fit (j := Nat.toInt32 k) hf A (idx_in (by omega) (by omega))
    obtain ⟨x, rfl⟩ := fit_I h2 (by simp)
    rw [e1] at h1
    exact ⟨x, h1⟩
  refine ⟨va, own_ev c, ⟨c, A, hsz, fun k hk => ?_⟩, Sta.start ev (Or.inr ⟨hw _ (List.mem_of_getElem? (i := 4) rfl), hw _ (List.mem_of_getElem? (i := 37) rfl)⟩), ?_⟩
  · obtain ⟨x, h⟩ := hx k hk
    show c.slots[k]? = some (Value.int (own_ev c k))
    rw [h, own_ev_at h]
  have hel : ∀ k, k < 256 → ∀ (t : Jvm.Term) (idx : List Nat), t.eval args s none idx s = some (.int k.toInt32) → (Jvm.Term.elem (Jvm.Term.static "com/example/belge/belge/SimpleTypes$Base64Check" "VALUES" "[B") t).eval args s none idx s = some (.int (own_ev c k)) := fun k hk t idx ht => by
    have e0 : k.toInt32.toInt = (k : Int) := len_toInt (show k < 2 ^ 31 by omega)
    have e1 : (Nat.toInt32 k).toNatClampNeg = k := by simp only [Int32.toNatClampNeg, e0]; rfl
    rw [elem_f (evi idx) ht hA (by rw [Int32.lt_iff_toInt_lt, e0]; have : (0 : Int32).toInt = 0 := rfl; omega), e1]
    obtain ⟨x, h⟩ := hx k hk
    rw [h, own_ev_at h]
  have hix : ∀ k : Nat, (Jvm.Term.index 0).eval args s none [k] s = some (.int k.toInt32) := fun k => Term.index_eval k
  have hlt : ∀ (k m : Nat), k < 256 → m < 256 → (k.toInt32 < m.toInt32 ↔ k < m) := fun k m hk hm => by
    rw [Int32.lt_iff_toInt_lt, len_toInt (show k < 2 ^ 31 by omega), len_toInt (show m < 2 ^ 31 by omega)]; omega
  have hle : ∀ (k m : Nat), k < 256 → m < 256 → (k.toInt32 ≤ m.toInt32 ↔ k ≤ m) := fun k m hk hm => by
    rw [Int32.le_iff_toInt_le, len_toInt (show k < 2 ^ 31 by omega), len_toInt (show m < 2 ^ 31 by omega)]; omega
  have fl : ∀ (k m : Nat), k < 256 → m < 256 → m ≤ k → (Jvm.Cond.lt (Jvm.Term.index 0) (Jvm.Term.int m.toInt32)).value args s none s [k] = some false := fun k m hk hm h => by
    rw [Cond.lt_ints (hix k) (Term.int_eval _)]; rw [decide_eq_false]; rw [hlt k m hk hm]; omega
  have fm : ∀ (k m : Nat), k < 256 → m < 256 → k < m → (Jvm.Cond.le (Jvm.Term.int m.toInt32) (Jvm.Term.index 0)).value args s none s [k] = some false := fun k m hk hm h => by
    rw [Cond.le_ints (Term.int_eval _) (hix k)]; rw [decide_eq_false]; rw [hle m k hm hk]; omega
  have at_ : ∀ (k : Nat) (y : Int32) (t F : Jvm.Term) (idx : List Nat), k < 256 → t.eval args s none idx s = some (.int k.toInt32) → F.eval args s none idx s = some (.int y) → (Jvm.Cond.eq (Jvm.Term.elem (Jvm.Term.static "com/example/belge/belge/SimpleTypes$Base64Check" "VALUES" "[B") t) F).value args s none s idx = some true → (own_ev c k) = y := fun k y t F idx hk ht hF h => by
    have h1 := eqv_i hF h
    have h2 := hel k hk t idx ht
    exact Value.int.inj (Option.some.inj (h2.symm.trans h1))
  have al := fun (q : Jvm.Cond) (h : (Jvm.Cond.all (Jvm.Term.static "com/example/belge/belge/SimpleTypes$Base64Check" "VALUES" "[B") q).value args s none s [] = some true) (k : Nat) (hk : k < 256) => Cond.all_elim (evi []) hA h k (by rw [hsz]; exact hk)
  refine ⟨fun k h1 h2 => ?_, fun k h1 h2 => ?_, fun k h1 h2 => ?_, ?_, ?_, ?_, ?_, ?_, ?_, ?_⟩
  · have hk : k < 256 := by omega
    have h := own_or (own_or (al _ n11 k hk) (fl k 65 hk (by decide) h1)) (fm k 91 hk (by decide) h2)
    have h3 := at_ k (k.toInt32 - 65) _ _ [k] hk (hix k) (by simp [Term.eval]) h
    show (own_ev c k).toInt = _
    rw [h3]
    have q1 := c_isub k.toInt32 65
    have q2 := rng32 (k.toInt32 - 65)
    have q3 : (65 : Int32).toInt = 65 := rfl
    have q4 : k.toInt32.toInt = (k : Int) := len_toInt (show k < 2 ^ 31 by omega)
    omega
  · have hk : k < 256 := by omega
    have h := own_or (own_or (al _ n13 k hk) (fl k 97 hk (by decide) h1)) (fm k 123 hk (by decide) h2)
    have h3 := at_ k (k.toInt32 - 71) _ _ [k] hk (hix k) (by simp [Term.eval]) h
    show (own_ev c k).toInt = _
    rw [h3]
    have q1 := c_isub k.toInt32 71
    have q2 := rng32 (k.toInt32 - 71)
    have q3 : (71 : Int32).toInt = 71 := rfl
    have q4 : k.toInt32.toInt = (k : Int) := len_toInt (show k < 2 ^ 31 by omega)
    omega
  · have hk : k < 256 := by omega
    have h := own_or (own_or (al _ n9 k hk) (fl k 48 hk (by decide) h1)) (fm k 58 hk (by decide) h2)
    have h3 := eqv_l (y := k.toInt32.toInt64 + 4) (by simp [Term.eval, Unary.apply, Binary.apply]) h
    have h4 := i2l_at (hel k hk _ [k] (hix k))
    have h5 := Value.long.inj (Option.some.inj (h4.symm.trans h3))
    show (own_ev c k).toInt = _
    generalize (own_ev c k) = z at h5 ⊢
    have h6 := congrArg Int64.toInt h5
    rw [c_i2l] at h6
    have q1 := c_ladd k.toInt32.toInt64 4
    have q2 := rng64 (k.toInt32.toInt64 + 4)
    have q3 : (4 : Int64).toInt = 4 := rfl
    have q4 : k.toInt32.toInt = (k : Int) := len_toInt (show k < 2 ^ 31 by omega)
    have q5 := c_i2l k.toInt32
    omega
  · exact at_ 43 62 _ _ [] (by decide) rfl rfl n4
  · exact at_ 47 63 _ _ [] (by decide) rfl rfl n8
  · exact at_ 32 (-1) _ _ [32] (by decide) (hix 32) rfl (own_or (al _ n3 32 (by decide)) (fm 32 43 (by decide) (by decide) (by decide)))
  · exact at_ 9 (-1) _ _ [9] (by decide) (hix 9) rfl (own_or (al _ n3 9 (by decide)) (fm 9 43 (by decide) (by decide) (by decide)))
  · exact at_ 10 (-1) _ _ [10] (by decide) (hix 10) rfl (own_or (al _ n3 10 (by decide)) (fm 10 43 (by decide) (by decide) (by decide)))
  · exact at_ 13 (-1) _ _ [13] (by decide) (hix 13) rfl (own_or (al _ n3 13 (by decide)) (fm 13 43 (by decide) (by decide) (by decide)))
  · exact at_ 61 (-1) _ _ [61] (by decide) (hix 61) rfl (own_or (own_or (al _ n10 61 (by decide)) (fl 61 58 (by decide) (by decide) (by decide))) (fm 61 65 (by decide) (by decide) (by decide)))
set_option maxRecDepth 65536 in
set_option maxHeartbeats 40000000 in
theorem comes_1 {Post : Tables → Env → Array Value → State → Outcome → State → Prop} (hpost : ∀ tb e args s v u, (limb_1_1.after args s (.returned v) u = true ∧ limb_1_2.after args s (.returned v) u = true ∧ True) → FrameEnd s (.returned v) u (Jvm.fieldLocs frame_1_writes args s ++ Jvm.arrayLocs frame_1_arrays args s ++ Jvm.staticLocs frame_1_statics s) 16 128 → Post tb e args s (.returned v) u) :
    ArmFor flags0 classFile x code maxLocals ret World_1 tables_1 room_1 Calls_1 rest_1 Pre_1 Post := by
  intro l hfl _ _ p e ha hc hk s m args below hf hA hF happ hP
  obtain ⟨hcalls, hrest, hpre⟩ := hP
  obtain ⟨-, -, -, hnamed, -, -, -, hat⟩ := (Spec.applies_iff hf).mp happ
  obtain ⟨hg, hn⟩ := and_e (Cond.before_iff.mp (show (Jvm.Cond.and given_1 narrow_1).before args s = true from hpre))
  obtain ⟨gg1, gg2⟩ := and_e hg
  obtain ⟨gg3, gg4⟩ := and_e gg2
  obtain ⟨gg5, gg6⟩ := and_e gg4
  obtain ⟨gg7, gg8⟩ := and_e gg6
  obtain ⟨gg9, gg10⟩ := and_e gg8
  obtain ⟨gg11, gg12⟩ := and_e gg10
  obtain ⟨w0, w1, w2, w3, w4, w5, rfl⟩ : ∃ w0 w1 w2 w3 w4 w5 : Value, args = #[w0, w1, w2, w3, w4, w5] := by
    have hs : args.size = 6 := by simpa [Cond.value, given_1] using gg1
    obtain ⟨L⟩ := args
    match L, hs with
    | [w0, w1, w2, w3, w4, w5], _ => exact ⟨w0, w1, w2, w3, w4, w5, rfl⟩
  have hw := fun d (hd : d ∈ tables_1) => atoms_spec (ws := Jvm.Cond.code x code maxLocals ret :: tables_1) hat d (List.mem_cons_of_mem _ hd)
  obtain ⟨i0, ei0⟩ := is_v gg3
  obtain rfl : w0 = (.int i0) := Option.some.inj ei0
  obtain ⟨i1, ei1⟩ := is_v gg5
  obtain rfl : w1 = (.int i1) := Option.some.inj ei1
  obtain ⟨i2, ei2⟩ := is_v gg7
  obtain rfl : w2 = (.int i2) := Option.some.inj ei2
  obtain ⟨i3, ei3⟩ := isL_v gg9
  obtain rfl : w3 = (.long i3) := Option.some.inj ei3
  obtain ⟨i4, ei4⟩ := is_v gg11
  obtain rfl : w4 = (.int i4) := Option.some.inj ei4
  obtain ⟨i5, ei5⟩ := is_v gg12
  obtain rfl : w5 = (.int i5) := Option.some.inj ei5
  have hfit : Fit s := fun {y c} hc i hi => by
    obtain ⟨ha, rfl⟩ := Array.getElem?_eq_some_iff.mp hc
    have q := List.all_eq_true.mp ((Array.all_eq_true_iff_forall_mem.mp hF) _ (Array.getElem_mem ha)) i (List.mem_range.mpr hi)
    simpa [Array.getElem?_eq_getElem hi] using q
  obtain ⟨va, VT, VA, SV, hVT⟩ := own_values hfit hw hn
  obtain ⟨n, o, h1, h2, h3, _, L, rfl, ⟨rfl, N⟩, hq⟩ := rm0 l s _ hw tables_1 i0 i1 i2 i3 i4 i5 va VT s.heap s.heap.size (Nat.le_refl _) VA SV hVT p e ha hc hk s m _ below hf ((Spec.applies_iff_loose hf).mp happ).1 ⟨rfl, State.Warmed39.refl s, rfl⟩ trivial
  refine ⟨n, _, h1, h2, h3, hpost _ _ _ _ _ _ ⟨Cond.after_iff.mpr rfl, Cond.after_iff.mpr (eq_i res_at (Term.int_eval (1)) rfl), trivial⟩ ⟨hq.1, hq.2.1, (hq.2.2.sift fun y hy => Or.inr (N y hy)).mono (by decide) (by decide)⟩⟩
theorem main_1_1 : Claimed_1_1 := comes_1 fun _ _ _ _ _ _ h hF => ⟨h.1, hF⟩
theorem main_1_2 : Claimed_1_2 := comes_1 fun _ _ _ _ _ _ h hF => ⟨h.2.1, hF⟩
end Jvm.Pilot.@@N@@
namespace Jvm.Pilot.@@N@@
open Jvm Jvm.ClassFile Sem Op Lib Jvm.Free Jvm.Stand Jvm.Pilot.@@N@@.Jvm.D
/-! MADE BY PROGRAM (witnessworld.py) out of the Statement's table words and the real class files: 10 classes; the members and pool entries that the words name. The judged class is class 1, her method 1. -/
namespace start1
open Jvm.ClassFile
def u (s : String) : CpInfo := .utf8 (stringToUtf16 s)
/-- a pool by its gaps: so many unusable entries, then the entry; so many at the end -/
def gap : Nat → List CpInfo → List CpInfo
  | 0, r => r
  | n + 1, r => .unusable :: gap n r
def poolList (es : List (Nat × CpInfo)) (last : Nat) : List CpInfo := es.foldr (fun e r => gap e.1 (e.2 :: r)) (gap last [])
def pool (es : List (Nat × CpInfo)) (last : Nat) : Array CpInfo := ⟨poolList es last⟩
def fileOf (pool : Array CpInfo) (this : Nat) (attrs : Array Attribute := #[]) (ms : Array MethodInfo := #[]) (fl : Nat := 33) (sup : Nat := 0) (ifs : Array Nat := #[]) (fds : Array FieldInfo := #[]) : ClassFile where
  minorVersion := 0
  majorVersion := 65
  constantPool := pool
  accessFlags := fl
  thisClass := this
  superClass := sup
  interfaces := ifs
  fields := fds
  methods := ms
  attributes := attrs
def plain (name : String) (sup : Option ClassId) : Class where
  name := name
  kind := .ordinary
  loader := none
  accessFlags := 33
  super := sup
  interfaces := #[]
  cf := none
  fields := #[]
  methods := #[]
  instanceTypes := #[]
  staticTypes := #[]
  resolved := #[]
  callSites := []
  init := .initialized
  statics := none
  mirror := none

def pool0 : Array CpInfo := pool [(5, u "<init>"), (0, u "()V"), (1, .class_ 10), (1, u "java/lang/Object")] 113

def k0c0 : Code := { maxStack := 0, maxLocals := 1, code := object_method_1_code, exceptionTable := #[], attributes := #[] }
def k0m0 : Method := { name := "<init>", desc := "()V", sig := { parameters := [], returnType := none }, accessFlags := 1, code := some k0c0 }
/-- java/lang/Object -/
def k0 : Class := { plain "java/lang/Object" none with
  accessFlags := 33
  interfaces := #[]
  cf := some (fileOf pool0 8 #[] #[{ accessFlags := 1, nameIndex := 5, descriptorIndex := 6, attributes := #[] }] 33 0 #[] #[])
  fields := #[]
  methods := #[k0m0]
  instanceTypes := #[]
  staticTypes := #[]
  resolved := Array.replicate 124 none
  statics := none }

def pool1 : Array CpInfo := pool [(2, .class_ 4), (0, .nameAndType 5 6), (0, u "java/lang/Object"), (0, u "<init>"), (0, u "()V"), (0, .integer 2147483647), (0, .methodref 9 10), (0, .class_ 11), (0, .nameAndType 12 13), (0, u "com/example/belge/belge/Base64CheckIsCompletePinLaw"), (0, u "letter"), (0, u "(IIIJ)B"), (0, .methodref 9 15), (0, .nameAndType 16 17), (0, u "space"), (0, u "(I)B"), (0, .class_ 19), (0, u "com/example/belge/belge/SimpleTypes$Base64Check"), (0, .methodref 18 3), (0, .methodref 18 22), (0, .nameAndType 23 24), (0, u "take"), (0, u "([BII)Z"), (0, .methodref 18 26), (0, .nameAndType 27 28), (0, u "isComplete"), (0, u "()Z"), (0, .long 63), (1, .methodref 9 32), (0, .nameAndType 33 17), (0, u "digit"), (2, u "law"), (0, u "(IIIJII)Z")] 9

def k1m0 : Method := { name := "<init>", desc := "()V", sig := { parameters := [], returnType := none }, accessFlags := 2, code := none }
def k1c1 : Code := { maxStack := 7, maxLocals := 18, code := code, exceptionTable := #[], attributes := #[] }
def k1m1 : Method := { name := "law", desc := "(IIIJII)Z", sig := { parameters := [.int, .int, .int, .long, .int, .int], returnType := some .boolean }, accessFlags := 9, code := some k1c1 }
def k1c2 : Code := { maxStack := 4, maxLocals := 6, code := method_3_code, exceptionTable := #[], attributes := #[] }
def k1m2 : Method := { name := "letter", desc := "(IIIJ)B", sig := { parameters := [.int, .int, .int, .long], returnType := some .byte }, accessFlags := 10, code := some k1c2 }
def k1c3 : Code := { maxStack := 2, maxLocals := 1, code := method_4_code, exceptionTable := #[], attributes := #[] }
def k1m3 : Method := { name := "digit", desc := "(I)B", sig := { parameters := [.int], returnType := some .byte }, accessFlags := 10, code := some k1c3 }
def k1c4 : Code := { maxStack := 2, maxLocals := 2, code := method_5_code, exceptionTable := #[], attributes := #[] }
def k1m4 : Method := { name := "space", desc := "(I)B", sig := { parameters := [.int], returnType := some .byte }, accessFlags := 10, code := some k1c4 }
/-- com/example/belge/belge/Base64CheckIsCompletePinLaw -/
def k1 : Class := { plain "com/example/belge/belge/Base64CheckIsCompletePinLaw" (some 0) with
  accessFlags := 49
  interfaces := #[]
  cf := some (fileOf pool1 9 #[] #[{ accessFlags := 2, nameIndex := 5, descriptorIndex := 6, attributes := #[] }, { accessFlags := 9, nameIndex := 36, descriptorIndex := 37, attributes := #[] }, { accessFlags := 10, nameIndex := 12, descriptorIndex := 13, attributes := #[] }, { accessFlags := 10, nameIndex := 33, descriptorIndex := 17, attributes := #[] }, { accessFlags := 10, nameIndex := 16, descriptorIndex := 17, attributes := #[] }] 49 2 #[] #[])
  fields := #[]
  methods := #[k1m0, k1m1, k1m2, k1m3, k1m4]
  instanceTypes := #[]
  staticTypes := #[]
  resolved := Array.replicate 47 none
  statics := none }

def pool2 : Array CpInfo := pool [(1, .methodref 2 3), (0, .class_ 4), (0, .nameAndType 5 6), (0, u "java/lang/Object"), (0, u "<init>"), (0, u "()V"), (0, .fieldref 8 9), (0, .class_ 10), (0, .nameAndType 11 12), (0, u "com/example/belge/belge/SimpleTypes$Base64Check"), (0, u "characters"), (0, u "I"), (0, .fieldref 8 14), (0, .nameAndType 15 12), (0, u "padding"), (0, .fieldref 8 17), (0, .nameAndType 18 12), (0, u "last"), (0, .fieldref 8 20), (0, .nameAndType 21 22), (0, u "VALUES"), (0, u "[B"), (0, .methodref 24 25), (0, .class_ 26), (0, .nameAndType 27 28), (0, u "com/example/belge/belge/XmlScanner"), (0, u "isSpace"), (0, u "(I)Z"), (21, u "take"), (0, u "([BII)Z"), (1, u "isComplete"), (0, u "()Z"), (4, .class_ 60), (0, u "com/example/belge/belge/SimpleTypes")] 2

def k2c0 : Code := { maxStack := 1, maxLocals := 1, code := prog_114_method_1_code, exceptionTable := #[], attributes := #[] }
def k2m0 : Method := { name := "<init>", desc := "()V", sig := { parameters := [], returnType := none }, accessFlags := 0, code := some k2c0 }
def k2c1 : Code := { maxStack := 5, maxLocals := 6, code := prog_114_method_3_code, exceptionTable := #[], attributes := #[] }
def k2m1 : Method := { name := "take", desc := "([BII)Z", sig := { parameters := [(.array .byte), .int, .int], returnType := some .boolean }, accessFlags := 0, code := some k2c1 }
def k2c2 : Code := { maxStack := 2, maxLocals := 1, code := prog_114_method_4_code, exceptionTable := #[], attributes := #[] }
def k2m2 : Method := { name := "isComplete", desc := "()Z", sig := { parameters := [], returnType := some .boolean }, accessFlags := 0, code := some k2c2 }
/-- com/example/belge/belge/SimpleTypes$Base64Check -/
def k2 : Class := { plain "com/example/belge/belge/SimpleTypes$Base64Check" (some 0) with
  accessFlags := 48
  interfaces := #[]
  cf := some (fileOf pool2 8 #[.nestHost 59] #[{ accessFlags := 0, nameIndex := 5, descriptorIndex := 6, attributes := #[] }, { accessFlags := 0, nameIndex := 50, descriptorIndex := 51, attributes := #[] }, { accessFlags := 0, nameIndex := 53, descriptorIndex := 54, attributes := #[] }] 48 2 #[] #[{ accessFlags := 26, nameIndex := 21, descriptorIndex := 22, attributes := #[] }, { accessFlags := 2, nameIndex := 11, descriptorIndex := 12, attributes := #[] }, { accessFlags := 2, nameIndex := 15, descriptorIndex := 12, attributes := #[] }, { accessFlags := 2, nameIndex := 18, descriptorIndex := 12, attributes := #[] }])
  fields := #[{ name := "VALUES", type := (.array .byte), accessFlags := 26, slot := 0, constantValue := 0 }, { name := "characters", type := .int, accessFlags := 2, slot := 0, constantValue := 0 }, { name := "padding", type := .int, accessFlags := 2, slot := 1, constantValue := 0 }, { name := "last", type := .int, accessFlags := 2, slot := 2, constantValue := 0 }]
  methods := #[k2m0, k2m1, k2m2]
  instanceTypes := #[.int, .int, .int]
  staticTypes := #[(.array .byte)]
  resolved := Array.replicate 63 none
  statics := some 0 }

def pool3 : Array CpInfo := pool [(2, .class_ 4), (1, u "java/lang/Object"), (2, .class_ 8), (0, u "com/example/belge/belge/XmlScanner$Names"), (2, .class_ 13), (1, u "com/example/belge/belge/XmlScanner"), (0, u "names"), (0, u "Lcom/example/belge/belge/XmlScanner$Names;"), (0, .class_ 17), (0, u "com/example/belge/belge/XmlScanner$QName"), (2, u "elements"), (0, u "[Lcom/example/belge/belge/XmlScanner$QName;"), (4, u "elementNamespaces"), (0, u "[Ljava/lang/String;"), (5, u "bindings"), (0, u "Lcom/example/belge/belge/NamespaceBindings;"), (2, u "attributeNames"), (2, u "attributeNamespaces"), (2, u "valueStarts"), (0, u "[I"), (2, u "valueEnds"), (2, u "plainValues"), (0, u "[Z"), (2, u "attributeValues"), (2, u "character"), (0, u "[B"), (2, u "doc"), (2, u "end"), (0, u "I"), (2, u "handler"), (0, u "Lcom/example/belge/belge/XmlScanner$Handler;"), (11, u "element"), (0, u "Lcom/example/belge/belge/XmlScanner$QName;"), (3, u "Ljava/lang/String;"), (8, u "namespace"), (2, u "depth"), (2, u "attributes"), (15, u "markupStart"), (2, u "pos"), (21, u "countedTo"), (2, u "linesCounted"), (6, u "BYTE_ORDER_MARK"), (6, u "DECLARATION"), (2, u "isSpace"), (0, u "(I)Z"), (6, .class_ 171), (0, u "com/example/belge/belge/XmlScanner$NotTaken"), (60, u "NAME"), (2, u "COMMENT"), (19, u "CDATA"), (7, u "IN_TEXT"), (17, .class_ 283), (1, u "com/example/belge/belge/XmlScanner$Handler"), (8, u "CDATA_END"), (6, u "LINE_FEED"), (39, u "tags"), (26, u "IN_DOUBLE_QUOTES"), (2, u "IN_SINGLE_QUOTES"), (76, .class_ 447), (0, u "com/example/belge/belge/XmlScanner$ExpandedName"), (28, u "NAME_START"), (12, u "entityReferences"), (98, u "ORDINARY"), (0, u "B"), (2, u "SPECIAL")] 84

def k3c0 : Code := { maxStack := 2, maxLocals := 1, code := prog_126_method_57_code, exceptionTable := #[], attributes := #[] }
def k3m0 : Method := { name := "isSpace", desc := "(I)Z", sig := { parameters := [.int], returnType := some .boolean }, accessFlags := 8, code := some k3c0 }
/-- com/example/belge/belge/XmlScanner -/
def k3 : Class := { plain "com/example/belge/belge/XmlScanner" (some 0) with
  accessFlags := 48
  interfaces := #[]
  cf := some (fileOf pool3 11 #[.nestMembers #[7, 446, 16, 281, 170]] #[{ accessFlags := 8, nameIndex := 162, descriptorIndex := 163, attributes := #[] }] 48 2 #[] #[{ accessFlags := 26, nameIndex := 588, descriptorIndex := 589, attributes := #[] }, { accessFlags := 26, nameIndex := 592, descriptorIndex := 589, attributes := #[] }, { accessFlags := 26, nameIndex := 263, descriptorIndex := 58, attributes := #[] }, { accessFlags := 26, nameIndex := 366, descriptorIndex := 58, attributes := #[] }, { accessFlags := 26, nameIndex := 369, descriptorIndex := 58, attributes := #[] }, { accessFlags := 26, nameIndex := 232, descriptorIndex := 51, attributes := #[] }, { accessFlags := 26, nameIndex := 476, descriptorIndex := 51, attributes := #[] }, { accessFlags := 26, nameIndex := 299, descriptorIndex := 58, attributes := #[] }, { accessFlags := 26, nameIndex := 152, descriptorIndex := 58, attributes := #[] }, { accessFlags := 26, nameIndex := 159, descriptorIndex := 58, attributes := #[] }, { accessFlags := 26, nameIndex := 235, descriptorIndex := 58, attributes := #[] }, { accessFlags := 26, nameIndex := 255, descriptorIndex := 58, attributes := #[] }, { accessFlags := 26, nameIndex := 292, descriptorIndex := 58, attributes := #[] }, { accessFlags := 18, nameIndex := 61, descriptorIndex := 58, attributes := #[] }, { accessFlags := 18, nameIndex := 64, descriptorIndex := 65, attributes := #[] }, { accessFlags := 18, nameIndex := 68, descriptorIndex := 69, attributes := #[] }, { accessFlags := 2, nameIndex := 120, descriptorIndex := 65, attributes := #[] }, { accessFlags := 18, nameIndex := 14, descriptorIndex := 15, attributes := #[] }, { accessFlags := 2, nameIndex := 20, descriptorIndex := 21, attributes := #[] }, { accessFlags := 2, nameIndex := 26, descriptorIndex := 27, attributes := #[] }, { accessFlags := 2, nameIndex := 98, descriptorIndex := 65, attributes := #[] }, { accessFlags := 18, nameIndex := 33, descriptorIndex := 34, attributes := #[] }, { accessFlags := 2, nameIndex := 81, descriptorIndex := 82, attributes := #[] }, { accessFlags := 2, nameIndex := 95, descriptorIndex := 86, attributes := #[] }, { accessFlags := 2, nameIndex := 37, descriptorIndex := 21, attributes := #[] }, { accessFlags := 2, nameIndex := 40, descriptorIndex := 27, attributes := #[] }, { accessFlags := 2, nameIndex := 43, descriptorIndex := 44, attributes := #[] }, { accessFlags := 2, nameIndex := 47, descriptorIndex := 44, attributes := #[] }, { accessFlags := 2, nameIndex := 50, descriptorIndex := 51, attributes := #[] }, { accessFlags := 2, nameIndex := 54, descriptorIndex := 27, attributes := #[] }, { accessFlags := 2, nameIndex := 101, descriptorIndex := 65, attributes := #[] }, { accessFlags := 2, nameIndex := 339, descriptorIndex := 65, attributes := #[] }, { accessFlags := 2, nameIndex := 117, descriptorIndex := 65, attributes := #[] }, { accessFlags := 2, nameIndex := 489, descriptorIndex := 65, attributes := #[] }, { accessFlags := 18, nameIndex := 57, descriptorIndex := 58, attributes := #[] }, { accessFlags := 2, nameIndex := 145, descriptorIndex := 65, attributes := #[] }, { accessFlags := 2, nameIndex := 142, descriptorIndex := 65, attributes := #[] }])
  fields := #[{ name := "ORDINARY", type := .byte, accessFlags := 26, slot := 0, constantValue := 0 }, { name := "SPECIAL", type := .byte, accessFlags := 26, slot := 1, constantValue := 0 }, { name := "IN_TEXT", type := (.array .byte), accessFlags := 26, slot := 2, constantValue := 0 }, { name := "IN_DOUBLE_QUOTES", type := (.array .byte), accessFlags := 26, slot := 3, constantValue := 0 }, { name := "IN_SINGLE_QUOTES", type := (.array .byte), accessFlags := 26, slot := 4, constantValue := 0 }, { name := "NAME", type := (.array .boolean), accessFlags := 26, slot := 5, constantValue := 0 }, { name := "NAME_START", type := (.array .boolean), accessFlags := 26, slot := 6, constantValue := 0 }, { name := "LINE_FEED", type := (.array .byte), accessFlags := 26, slot := 7, constantValue := 0 }, { name := "BYTE_ORDER_MARK", type := (.array .byte), accessFlags := 26, slot := 8, constantValue := 0 }, { name := "DECLARATION", type := (.array .byte), accessFlags := 26, slot := 9, constantValue := 0 }, { name := "COMMENT", type := (.array .byte), accessFlags := 26, slot := 10, constantValue := 0 }, { name := "CDATA", type := (.array .byte), accessFlags := 26, slot := 11, constantValue := 0 }, { name := "CDATA_END", type := (.array .byte), accessFlags := 26, slot := 12, constantValue := 0 }, { name := "doc", type := (.array .byte), accessFlags := 18, slot := 0, constantValue := 0 }, { name := "end", type := .int, accessFlags := 18, slot := 1, constantValue := 0 }, { name := "handler", type := (.object "com/example/belge/belge/XmlScanner$Handler"), accessFlags := 18, slot := 2, constantValue := 0 }, { name := "pos", type := .int, accessFlags := 2, slot := 3, constantValue := 0 }, { name := "names", type := (.object "com/example/belge/belge/XmlScanner$Names"), accessFlags := 18, slot := 4, constantValue := 0 }, { name := "elements", type := (.array (.object "com/example/belge/belge/XmlScanner$QName")), accessFlags := 2, slot := 5, constantValue := 0 }, { name := "elementNamespaces", type := (.array (.object "java/lang/String")), accessFlags := 2, slot := 6, constantValue := 0 }, { name := "depth", type := .int, accessFlags := 2, slot := 7, constantValue := 0 }, { name := "bindings", type := (.object "com/example/belge/belge/NamespaceBindings"), accessFlags := 18, slot := 8, constantValue := 0 }, { name := "element", type := (.object "com/example/belge/belge/XmlScanner$QName"), accessFlags := 2, slot := 9, constantValue := 0 }, { name := "namespace", type := (.object "java/lang/String"), accessFlags := 2, slot := 10, constantValue := 0 }, { name := "attributeNames", type := (.array (.object "com/example/belge/belge/XmlScanner$QName")), accessFlags := 2, slot := 11, constantValue := 0 }, { name := "attributeNamespaces", type := (.array (.object "java/lang/String")), accessFlags := 2, slot := 12, constantValue := 0 }, { name := "valueStarts", type := (.array .int), accessFlags := 2, slot := 13, constantValue := 0 }, { name := "valueEnds", type := (.array .int), accessFlags := 2, slot := 14, constantValue := 0 }, { name := "plainValues", type := (.array .boolean), accessFlags := 2, slot := 15, constantValue := 0 }, { name := "attributeValues", type := (.array (.object "java/lang/String")), accessFlags := 2, slot := 16, constantValue := 0 }, { name := "attributes", type := .int, accessFlags := 2, slot := 17, constantValue := 0 }, { name := "tags", type := .int, accessFlags := 2, slot := 18, constantValue := 0 }, { name := "markupStart", type := .int, accessFlags := 2, slot := 19, constantValue := 0 }, { name := "entityReferences", type := .int, accessFlags := 2, slot := 20, constantValue := 0 }, { name := "character", type := (.array .byte), accessFlags := 18, slot := 21, constantValue := 0 }, { name := "linesCounted", type := .int, accessFlags := 2, slot := 22, constantValue := 0 }, { name := "countedTo", type := .int, accessFlags := 2, slot := 23, constantValue := 0 }]
  methods := #[k3m0]
  instanceTypes := #[(.array .byte), .int, (.object "com/example/belge/belge/XmlScanner$Handler"), .int, (.object "com/example/belge/belge/XmlScanner$Names"), (.array (.object "com/example/belge/belge/XmlScanner$QName")), (.array (.object "java/lang/String")), .int, (.object "com/example/belge/belge/NamespaceBindings"), (.object "com/example/belge/belge/XmlScanner$QName"), (.object "java/lang/String"), (.array (.object "com/example/belge/belge/XmlScanner$QName")), (.array (.object "java/lang/String")), (.array .int), (.array .int), (.array .boolean), (.array (.object "java/lang/String")), .int, .int, .int, .int, (.array .byte), .int, .int]
  staticTypes := #[.byte, .byte, (.array .byte), (.array .byte), (.array .byte), (.array .boolean), (.array .boolean), (.array .byte), (.array .byte), (.array .byte), (.array .byte), (.array .byte), (.array .byte)]
  resolved := Array.replicate 677 none
  statics := none }

def pool4 : Array CpInfo := pool [(1, u "java/lang/Cloneable"), (0, .class_ 1), (0, u "java/lang/Object"), (0, .class_ 3)] 3

/-- java/lang/Cloneable -/
def k4 : Class := { plain "java/lang/Cloneable" (some 0) with
  accessFlags := 1537
  interfaces := #[]
  cf := some (fileOf pool4 2 #[] #[] 1537 4 #[] #[])
  fields := #[]
  methods := #[]
  instanceTypes := #[]
  staticTypes := #[]
  resolved := Array.replicate 8 none
  statics := none }

def pool5 : Array CpInfo := pool [(1, u "java/io/Serializable"), (0, .class_ 1), (0, u "java/lang/Object"), (0, .class_ 3)] 3

/-- java/io/Serializable -/
def k5 : Class := { plain "java/io/Serializable" (some 0) with
  accessFlags := 1537
  interfaces := #[]
  cf := some (fileOf pool5 2 #[] #[] 1537 4 #[] #[])
  fields := #[]
  methods := #[]
  instanceTypes := #[]
  staticTypes := #[]
  resolved := Array.replicate 8 none
  statics := none }

/-- the primitive byte -/
def k6 : Class := { plain "byte" none with kind := .primitive 'B', accessFlags := 0x411 }
/-- [B -/
def k7 : Class := { plain "[B" (some 0) with kind := .array 6 .byte, interfaces := #[4, 5], accessFlags := 1041 }

/-- the primitive int -/
def k8 : Class := { plain "int" none with kind := .primitive 'I', accessFlags := 0x411 }
/-- [I -/
def k9 : Class := { plain "[I" (some 0) with kind := .array 8 .int, interfaces := #[4, 5], accessFlags := 1041 }

def heap : Heap := #[{ cls := 2, slots := #[.ref 1], vm := .statics 2 },
  { cls := 7, slots := #[.int (-1), .int (-1), .int (-1), .int (-1), .int (-1), .int (-1), .int (-1), .int (-1), .int (-1), .int (-1), .int (-1), .int (-1), .int (-1), .int (-1), .int (-1), .int (-1), .int (-1), .int (-1), .int (-1), .int (-1), .int (-1), .int (-1), .int (-1), .int (-1), .int (-1), .int (-1), .int (-1), .int (-1), .int (-1), .int (-1), .int (-1), .int (-1), .int (-1), .int (-1), .int (-1), .int (-1), .int (-1), .int (-1), .int (-1), .int (-1), .int (-1), .int (-1), .int (-1), .int 62, .int (-1), .int (-1), .int (-1), .int 63, .int 52, .int 53, .int 54, .int 55, .int 56, .int 57, .int 58, .int 59, .int 60, .int 61, .int (-1), .int (-1), .int (-1), .int (-1), .int (-1), .int (-1), .int (-1), .int 0, .int 1, .int 2, .int 3, .int 4, .int 5, .int 6, .int 7, .int 8, .int 9, .int 10, .int 11, .int 12, .int 13, .int 14, .int 15, .int 16, .int 17, .int 18, .int 19, .int 20, .int 21, .int 22, .int 23, .int 24, .int 25, .int (-1), .int (-1), .int (-1), .int (-1), .int (-1), .int (-1), .int 26, .int 27, .int 28, .int 29, .int 30, .int 31, .int 32, .int 33, .int 34, .int 35, .int 36, .int 37, .int 38, .int 39, .int 40, .int 41, .int 42, .int 43, .int 44, .int 45, .int 46, .int 47, .int 48, .int 49, .int 50, .int 51, .int (-1), .int (-1), .int (-1), .int (-1), .int (-1), .int (-1), .int (-1), .int (-1), .int (-1), .int (-1), .int (-1), .int (-1), .int (-1), .int (-1), .int (-1), .int (-1), .int (-1), .int (-1), .int (-1), .int (-1), .int (-1), .int (-1), .int (-1), .int (-1), .int (-1), .int (-1), .int (-1), .int (-1), .int (-1), .int (-1), .int (-1), .int (-1), .int (-1), .int (-1), .int (-1), .int (-1), .int (-1), .int (-1), .int (-1), .int (-1), .int (-1), .int (-1), .int (-1), .int (-1), .int (-1), .int (-1), .int (-1), .int (-1), .int (-1), .int (-1), .int (-1), .int (-1), .int (-1), .int (-1), .int (-1), .int (-1), .int (-1), .int (-1), .int (-1), .int (-1), .int (-1), .int (-1), .int (-1), .int (-1), .int (-1), .int (-1), .int (-1), .int (-1), .int (-1), .int (-1), .int (-1), .int (-1), .int (-1), .int (-1), .int (-1), .int (-1), .int (-1), .int (-1), .int (-1), .int (-1), .int (-1), .int (-1), .int (-1), .int (-1), .int (-1), .int (-1), .int (-1), .int (-1), .int (-1), .int (-1), .int (-1), .int (-1), .int (-1), .int (-1), .int (-1), .int (-1), .int (-1), .int (-1), .int (-1), .int (-1), .int (-1), .int (-1), .int (-1), .int (-1), .int (-1), .int (-1), .int (-1), .int (-1), .int (-1), .int (-1), .int (-1), .int (-1), .int (-1), .int (-1), .int (-1), .int (-1), .int (-1), .int (-1), .int (-1), .int (-1), .int (-1), .int (-1), .int (-1), .int (-1), .int (-1), .int (-1), .int (-1), .int (-1), .int (-1), .int (-1), .int (-1), .int (-1), .int (-1)], vm := .none }]
def classes : Array Class := #[k0, k1, k2, k3, k4, k5, k6, k7, k8, k9]
def interned : List (Array UInt16 × Addr) := []
def slotsUsed : Nat := 257
def theMethod : MethodId := ⟨1, 1⟩
def args0 : Array Value := #[.int 5, .int 6, .int 7, .long 1, .int 3, .int 9]
def aboutOver (below : List Frame) : State where
  vm := { classes := classes, interned := interned.toArray }
  heap := heap
  slotsUsed := slotsUsed
  threads := #[{ frames := .invoking theMethod args0 :: below }]
def below0 : List Frame := [.native { method := ⟨0, 0⟩, args := #[] }]
def about1 : State := aboutOver below0
def p0 : Program := .bare "" "" ""
def e0 : Env := launch0.env 0 0 0
theorem w_frames : about1.frames = Frame.invoking theMethod args0 :: below0 := rfl
set_option maxRecDepth 65536 in
theorem w_args : argsFit about1.vm theMethod args0 = true := by decide +kernel
set_option maxRecDepth 65536 in
theorem w_heap : heapFits about1 = true := by decide +kernel
set_option maxRecDepth 65536 in
theorem w_runnable : about1.curStatus? = some .runnable := by decide +kernel
set_option maxRecDepth 65536 in
theorem w_alone : about1.alone = true := by decide +kernel
set_option maxRecDepth 65536 in
theorem w_named : about1.methodNamed? x = some theMethod := by decide +kernel
set_option maxRecDepth 65536 in
theorem w_hears : about1.hears theMethod below0 = true := by decide +kernel
set_option maxRecDepth 65536 in
theorem w_ripe : about1.ripe theMethod args0 below0 = true := by decide +kernel
theorem w_running : about1.status = .running := rfl
set_option maxRecDepth 65536 in
theorem w_room : about1.hasRoom e0.platform room_1 = true :=
  launch0.hasRoom_least _ room_1 (by decide +kernel) (by decide +kernel) (by decide +kernel) (by decide +kernel) (by decide +kernel) (by decide +kernel)
theorem allAtoms_all (ts : List Jvm.Cond) (a : Array Jvm.Value) (st : Jvm.State) : (allAtoms ts).before a st = ts.all (fun c => c.before a st) := by
  induction ts with
  | nil => rfl
  | cons c t ih =>
    show (Jvm.Cond.and c (allAtoms t)).before a st = _
    rw [Jvm.Cond.before_and, ih, List.all_cons]
def words1 : List Jvm.Cond := Jvm.Cond.code x code maxLocals ret :: tables_1
/-- a 'code' word, met by the world's own term for the bytes: nothing is compared byte by byte -/
theorem code_word {y : MethodName} {bytes : ByteArray} {mx : Nat} {rt : Option FieldType} {a : Array Value} {s : State} {m : MethodId} {meth : Method} {c : Code} (h1 : s.methodNamed? y = some m) (h2 : s.vm.method? m = some meth) (h3 : meth.code = some c) (h4 : c.code = bytes)
    (h5 : (c.maxLocals == mx && c.exceptionTable.isEmpty && decide (c.maxStack ≤ mostOperands) && decide (meth.sig.returnType = rt) && !meth.locks && decide (parseMethodDescriptor y.desc = some meth.sig)) = true) : (Jvm.Cond.code y bytes mx rt).before a s = true := by
  simp only [Bool.and_eq_true, beq_iff_eq, Bool.not_eq_true', decide_eq_true_eq] at h5
  obtain ⟨⟨⟨⟨⟨g1, g2⟩, g3⟩, g4⟩, g5⟩, g6⟩ := h5
  simp [Cond.before, Cond.holds, Cond.value, h1, h2, h3, h4, g1, g2, g3, g4, g5, g6]
def isCode : Jvm.Cond → Bool
  | .code _ _ _ _ => true
  | _ => false
theorem all_split {L : List Jvm.Cond} {P : Jvm.Cond → Bool} (h1 : L.all (fun c => isCode c || P c) = true) (h2 : ∀ c ∈ L.filter isCode, P c = true) : L.all P = true := by
  refine List.all_eq_true.mpr fun c hc => ?_
  have h := List.all_eq_true.mp h1 c hc
  rcases Bool.eq_false_or_eq_true (isCode c) with hi | hi
  · exact h2 c (List.mem_filter.mpr ⟨hc, hi⟩)
  · simpa [hi] using h
set_option maxRecDepth 65536 in
theorem w_c0 : (Jvm.Cond.code x code maxLocals ret).before args0 about1 = true := code_word (m := ⟨1, 1⟩) (meth := k1m1) (c := k1c1) (by decide +kernel) rfl rfl rfl (by decide +kernel)
set_option maxRecDepth 65536 in
theorem w_c1 : (Jvm.Cond.code ({ cls := "com/example/belge/belge/SimpleTypes$Base64Check", name := "<init>", desc := "()V" } : Jvm.MethodName) prog_114_method_1_code (1 : Nat) (Option.none : Option Jvm.ClassFile.FieldType)).before args0 about1 = true := code_word (m := ⟨2, 0⟩) (meth := k2m0) (c := k2c0) (by decide +kernel) rfl rfl rfl (by decide +kernel)
set_option maxRecDepth 65536 in
theorem w_c2 : (Jvm.Cond.code ({ cls := "java/lang/Object", name := "<init>", desc := "()V" } : Jvm.MethodName) object_method_1_code (1 : Nat) (Option.none : Option Jvm.ClassFile.FieldType)).before args0 about1 = true := code_word (m := ⟨0, 0⟩) (meth := k0m0) (c := k0c0) (by decide +kernel) rfl rfl rfl (by decide +kernel)
set_option maxRecDepth 65536 in
theorem w_c3 : (Jvm.Cond.code ({ cls := "com/example/belge/belge/SimpleTypes$Base64Check", name := "take", desc := "([BII)Z" } : Jvm.MethodName) prog_114_method_3_code (6 : Nat) (Option.some Jvm.ClassFile.FieldType.boolean)).before args0 about1 = true := code_word (m := ⟨2, 1⟩) (meth := k2m1) (c := k2c1) (by decide +kernel) rfl rfl rfl (by decide +kernel)
set_option maxRecDepth 65536 in
theorem w_c4 : (Jvm.Cond.code ({ cls := "com/example/belge/belge/SimpleTypes$Base64Check", name := "isComplete", desc := "()Z" } : Jvm.MethodName) prog_114_method_4_code (1 : Nat) (Option.some Jvm.ClassFile.FieldType.boolean)).before args0 about1 = true := code_word (m := ⟨2, 2⟩) (meth := k2m2) (c := k2c2) (by decide +kernel) rfl rfl rfl (by decide +kernel)
set_option maxRecDepth 65536 in
theorem w_c5 : (Jvm.Cond.code ({ cls := "com/example/belge/belge/Base64CheckIsCompletePinLaw", name := "letter", desc := "(IIIJ)B" } : Jvm.MethodName) method_3_code (6 : Nat) (Option.some Jvm.ClassFile.FieldType.byte)).before args0 about1 = true := code_word (m := ⟨1, 2⟩) (meth := k1m2) (c := k1c2) (by decide +kernel) rfl rfl rfl (by decide +kernel)
set_option maxRecDepth 65536 in
theorem w_c6 : (Jvm.Cond.code ({ cls := "com/example/belge/belge/Base64CheckIsCompletePinLaw", name := "digit", desc := "(I)B" } : Jvm.MethodName) method_4_code (1 : Nat) (Option.some Jvm.ClassFile.FieldType.byte)).before args0 about1 = true := code_word (m := ⟨1, 3⟩) (meth := k1m3) (c := k1c3) (by decide +kernel) rfl rfl rfl (by decide +kernel)
set_option maxRecDepth 65536 in
theorem w_c7 : (Jvm.Cond.code ({ cls := "com/example/belge/belge/Base64CheckIsCompletePinLaw", name := "space", desc := "(I)B" } : Jvm.MethodName) method_5_code (2 : Nat) (Option.some Jvm.ClassFile.FieldType.byte)).before args0 about1 = true := code_word (m := ⟨1, 4⟩) (meth := k1m4) (c := k1c4) (by decide +kernel) rfl rfl rfl (by decide +kernel)
set_option maxRecDepth 65536 in
theorem w_c8 : (Jvm.Cond.code ({ cls := "com/example/belge/belge/XmlScanner", name := "isSpace", desc := "(I)Z" } : Jvm.MethodName) prog_126_method_57_code (1 : Nat) (Option.some Jvm.ClassFile.FieldType.boolean)).before args0 about1 = true := code_word (m := ⟨3, 0⟩) (meth := k3m0) (c := k3c0) (by decide +kernel) rfl rfl rfl (by decide +kernel)
def codes1 : List Jvm.Cond := [Jvm.Cond.code x code maxLocals ret, Jvm.Cond.code ({ cls := "com/example/belge/belge/SimpleTypes$Base64Check", name := "<init>", desc := "()V" } : Jvm.MethodName) prog_114_method_1_code (1 : Nat) (Option.none : Option Jvm.ClassFile.FieldType), Jvm.Cond.code ({ cls := "java/lang/Object", name := "<init>", desc := "()V" } : Jvm.MethodName) object_method_1_code (1 : Nat) (Option.none : Option Jvm.ClassFile.FieldType), Jvm.Cond.code ({ cls := "com/example/belge/belge/SimpleTypes$Base64Check", name := "take", desc := "([BII)Z" } : Jvm.MethodName) prog_114_method_3_code (6 : Nat) (Option.some Jvm.ClassFile.FieldType.boolean), Jvm.Cond.code ({ cls := "com/example/belge/belge/SimpleTypes$Base64Check", name := "isComplete", desc := "()Z" } : Jvm.MethodName) prog_114_method_4_code (1 : Nat) (Option.some Jvm.ClassFile.FieldType.boolean), Jvm.Cond.code ({ cls := "com/example/belge/belge/Base64CheckIsCompletePinLaw", name := "letter", desc := "(IIIJ)B" } : Jvm.MethodName) method_3_code (6 : Nat) (Option.some Jvm.ClassFile.FieldType.byte), Jvm.Cond.code ({ cls := "com/example/belge/belge/Base64CheckIsCompletePinLaw", name := "digit", desc := "(I)B" } : Jvm.MethodName) method_4_code (1 : Nat) (Option.some Jvm.ClassFile.FieldType.byte), Jvm.Cond.code ({ cls := "com/example/belge/belge/Base64CheckIsCompletePinLaw", name := "space", desc := "(I)B" } : Jvm.MethodName) method_5_code (2 : Nat) (Option.some Jvm.ClassFile.FieldType.byte), Jvm.Cond.code ({ cls := "com/example/belge/belge/XmlScanner", name := "isSpace", desc := "(I)Z" } : Jvm.MethodName) prog_126_method_57_code (1 : Nat) (Option.some Jvm.ClassFile.FieldType.boolean)]
set_option maxRecDepth 65536 in
theorem codes_eq : words1.filter isCode = codes1 := rfl
theorem w_codes : ∀ c ∈ words1.filter isCode, c.before args0 about1 = true := by
  rw [codes_eq]
  intro c hc
  simp only [codes1, List.mem_cons, List.not_mem_nil, or_false] at hc
  rcases hc with rfl | rfl | rfl | rfl | rfl | rfl | rfl | rfl | rfl
  · exact w_c0
  · exact w_c1
  · exact w_c2
  · exact w_c3
  · exact w_c4
  · exact w_c5
  · exact w_c6
  · exact w_c7
  · exact w_c8
set_option maxRecDepth 65536 in
theorem w_t1 : (words1.take 24).all (fun c => isCode c || c.before args0 about1) = true := by decide +kernel
set_option maxRecDepth 65536 in
theorem w_t2 : (words1.drop 24).all (fun c => isCode c || c.before args0 about1) = true := by decide +kernel
theorem w_tables : (allAtoms (Jvm.Cond.code x code maxLocals ret :: tables_1)).before args0 about1 = true := by
  rw [allAtoms_all]
  show words1.all (fun c => c.before args0 about1) = true
  refine all_split ?_ w_codes
  rw [← List.take_append_drop 24 words1, List.all_append, w_t1, w_t2]
  rfl
set_option maxRecDepth 65536 in
theorem w_case : (Jvm.Cond.and given_1 narrow_1).before args0 about1 = true := by decide +kernel
theorem w_applies : (headSpec (Jvm.Cond.code x code maxLocals ret :: tables_1) room_1).applies x e0.platform about1 = true :=
  (Spec.applies_iff w_frames).mpr ⟨w_running, w_runnable, w_alone, w_named, w_hears, w_ripe, w_room, w_tables⟩
theorem atStart : AtStart classFile x code maxLocals ret World_1 tables_1 room_1 Calls_1 rest_1 Pre_1 launch0 p0 e0 about1 theMethod args0 below0 :=
  ⟨lists_1, trivial, launch0.admits_env _ _ _, launch0.least_env, fairChoices_fair.cas, fairChoices_fair.clock, w_frames, w_args, w_heap, w_applies, trivial, trivial, w_case⟩
end start1
theorem witness_1 : WitnessClaimed_1 := ⟨start1.p0, start1.e0, start1.about1, start1.theMethod, start1.args0, start1.below0, start1.atStart⟩
end Jvm.Pilot.@@N@@
