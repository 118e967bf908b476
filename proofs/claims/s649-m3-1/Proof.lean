import JvmDerived
import JvmDerived.Pilot.@@N@@Statement
import JvmDerived.Pilot.@@N@@Code
set_option linter.unusedVariables false
set_option linter.unusedSimpArgs false
namespace Jvm.RoadKit
open Sem ClassFile Op Lib Jvm.Stand Jvm.Free Jvm.LawKit
section New
variable {p : Program} {l : Launch} {e : Env} {R : Room} {s : State} {m : MethodId} {args : Array Value} {below : List Frame} {meth : Method} {c : Code} {T : State} {locs : List Loc} {cells slots : Nat}
theorem retI (X : Stand p l e R s m args below meth c T locs cells slots) (hx : p.tables.exec = Jvm.exec) {pc : Nat} {Ls : Array Slot} {z : Int32} {rest : List Value} (hret : meth.sig.returnType = some .int) (hd : decode c.code pc = .ok (.ireturn, 1)) {fs : List Frame}
    (hl : ∀ (f : JFrame) (acts : List Action), f.method = m → f.locked = none → f.entered = [] → (doReturn e (T.setTop f) acts (some (.int z))).1 = T.setFrames fs) : Steps p.tables e below (T.setTop (mkF m pc Ls (.int z :: rest))) (T.setFrames fs) := by
  have hm' : T.vm.method? m = some meth := X.method'
  have hn : narrow .int (.int z) = .int z := rfl
  show Steps p.tables e below (T.setTop { method := m, pc := pc, locals := Ls, stack := _ :: rest, locked := none }) _
  jvm_step X.here [X.here.top, hx, hd, hm', hret, hn]
  first | (intro acts; rw [hl _ acts rfl rfl rfl]) | rw [hl _ _ rfl rfl rfl]
  exact Steps.refl _
end New
end Jvm.RoadKit
namespace Jvm.Pilot.@@N@@
open Jvm Jvm.ClassFile Sem Op Lib Jvm.Free Jvm.Stand Jvm.LawKit Jvm.RoadKit Bundle Jvm.Pilot.@@N@@.Jvm.D
abbrev un : Slot := .unset
theorem own_tn {j : Int32} {i : Nat} (hj : j.toInt = (i : Int)) : j.toNatClampNeg = i := by
  simp only [Int32.toNatClampNeg, hj]; rfl
theorem own_inb {j : Int32} {i n k : Nat} (hj : j.toInt = (i : Int)) (hi : i < n) (hn : k = n) : ¬ (j < 0 ∨ k ≤ j.toNatClampNeg) := by
  rw [own_tn hj, hn]
  rintro (h | h)
  · rw [Int32.lt_iff_toInt_lt, hj] at h
    have e0 : (0 : Int32).toInt = 0 := rfl
    omega
  · omega
theorem own_selP {s : State} {a1 a2 : Array Value} {y : MethodName} {n : Nat} (wi : (Jvm.Cond.instantiable y.cls n).before a1 s = true) (hpriv : s.PrivateAt y) (hinst : (Jvm.Cond.instanceMethod y).before a2 s = true) (hy : y.cls ≠ "java/lang/invoke/MethodHandle" ∧ y.cls ≠ "java/lang/invoke/VarHandle") : (Jvm.Cond.selects y.cls y y).before a2 s = true := by
  obtain ⟨c, k, h1, h2, h3, h4, -⟩ := Cond.instantiable_spec wi
  exact selects_self_of_private h1 h2 (by simp at h4; exact h4.1) hpriv hinst hy
def Ends (tb : Tables) (e : Env) (below : List Frame) (G : State → Outcome → Prop) (S : State) : Prop := ∃ s₂ o, Steps tb e below S s₂ ∧ s₂.status = .running ∧ Ended s₂ below o ∧ G s₂ o
section OwnEnds
variable {tb : Tables} {e : Env} {below : List Frame} {G : State → Outcome → Prop} {S S' : State}
theorem Ends.go (h : ∀ t, Steps tb e below S' t → Steps tb e below S t) (k : Ends tb e below G S') : Ends tb e below G S := by
  obtain ⟨s₂, o, a, b⟩ := k
  exact ⟨s₂, o, h _ a, b⟩
theorem Ends.any (h : ∀ G', (∀ s₂ o, G s₂ o → G' s₂ o) → Ends tb e below G' S) : Ends tb e below G S := h G fun _ _ k => k
end OwnEnds
section OwnFin
variable {p : Program} {l : Launch} {e : Env} {R : Room} {s : State} {m : MethodId} {args : Array Value} {below : List Frame} {meth : Method} {c : Code} {T : State} {locs : List Loc} {cells slots : Nat} {G : State → Outcome → Prop}
theorem own_finI (X : Stand p l e R s m args below meth c T locs cells slots) (hx : p.tables.exec = Jvm.exec) {pc : Nat} {Ls : Array Slot} {z : Int32} {rest : List Value} (hret : meth.sig.returnType = some .int) (hlk : meth.locks = false) (hd : decode c.code pc = .ok (.ireturn, 1)) {Q : Option Value → Heap → List Loc → Prop} {C K : Nat}
    (hG : ∀ s₂ o, (∃ v L, o = .returned v ∧ Q v s₂.heap L ∧ FrameEnd s o s₂ L C K) → G s₂ o) (hC : cells ≤ C) (hK : slots ≤ K) (hQ : Q (some (.int z)) T.heap locs) : Ends p.tables e below G (T.setTop (mkF m pc Ls (.int z :: rest))) := by
  obtain ⟨fs, hr, hrun, hended, hW, hsame⟩ := X.leave (v := some (.int z)) (fun h => by rw [hret] at h; cases h)
  exact ⟨_, _, retI X hx hret hd hr, hrun, hended, hG _ _ ⟨_, _, rfl, hQ, ⟨_, rfl⟩, hW, hsame.mono hC hK⟩⟩
theorem own_finS (X : Stand p l e R s m args below meth c T locs cells slots) (hx : p.tables.exec = Jvm.exec) {t : FieldType} {pc : Nat} {Ls : Array Slot} {z : Int32} {rest : List Value} (hret : meth.sig.returnType = some t) (ht : t = .boolean ∨ t = .byte ∨ t = .char ∨ t = .short) (hlk : meth.locks = false) (hd : decode c.code pc = .ok (.ireturn, 1)) {Q : Option Value → Heap → List Loc → Prop} {C K : Nat}
    (hG : ∀ s₂ o, (∃ v L, o = .returned v ∧ Q v s₂.heap L ∧ FrameEnd s o s₂ L C K) → G s₂ o) (hC : cells ≤ C) (hK : slots ≤ K) (hQ : Q (some (.int (nar t z))) T.heap locs) : Ends p.tables e below G (T.setTop (mkF m pc Ls (.int z :: rest))) := by
  obtain ⟨fs, hr, hrun, hended, hW, hsame⟩ := X.leave (v := some (.int (nar t z))) (fun h => by rw [hret] at h; cases h)
  exact ⟨_, _, retN X hx (t := t) hret ht hd hr, hrun, hended, hG _ _ ⟨_, _, rfl, hQ, ⟨_, rfl⟩, hW, hsame.mono hC hK⟩⟩
theorem own_finN (X : Stand p l e R s m args below meth c T locs cells slots) (hx : p.tables.exec = Jvm.exec) {pc : Nat} {Ls : Array Slot} (hret : meth.sig.returnType = none) (hlk : meth.locks = false) (hd : decode c.code pc = .ok (.return_, 1)) {Q : Option Value → Heap → List Loc → Prop} {C K : Nat}
    (hG : ∀ s₂ o, (∃ v L, o = .returned v ∧ Q v s₂.heap L ∧ FrameEnd s o s₂ L C K) → G s₂ o) (hC : cells ≤ C) (hK : slots ≤ K) (hQ : Q none T.heap locs) : Ends p.tables e below G (T.setTop (mkF m pc Ls [])) := by
  obtain ⟨fs, hr, hrun, hended, hW, hsame⟩ := X.leave (v := none) (fun _ => rfl)
  exact ⟨_, _, X.returnOut hx hret hd hr, hrun, hended, hG _ _ ⟨_, _, rfl, hQ, ⟨_, rfl⟩, hW, hsame.mono hC hK⟩⟩
end OwnFin
/-- an array by what each place holds -/
def AF (Z : State) (h : Heap) (a : Addr) (ty : FieldType) (n : Nat) (f : Nat → Value) : Prop := ∃ c : Cell, Arr Z h a c ty ∧ c.slots.size = n ∧ ∀ j, j < n → c.slots[j]? = some (f j)
section OwnAF
variable {Z : State} {h h' : Heap} {a b : Addr} {ty : FieldType} {n sl : Nat} {f g : Nat → Value} {v : Value} {ws : List Addr}
theorem AF.lt (F : AF Z h a ty n f) : a < h.size := by obtain ⟨c, A, -⟩ := F; exact A.lt
theorem AF.ext (F : AF Z h a ty n f) (E : Ext h h') : AF Z h' a ty n f := by obtain ⟨c, A, r⟩ := F; exact ⟨c, A.ext E, r⟩
theorem AF.other (F : AF Z h b ty n f) (W : Wr h h' a sl v) (q : b ≠ a) : AF Z h' b ty n f := by obtain ⟨c, A, r⟩ := F; exact ⟨c, A.other W q, r⟩
theorem AF.keep (F : AF Z h a ty n f) (K : Keep h h' ws) (q : a ∉ ws) : AF Z h' a ty n f := by obtain ⟨c, A, r⟩ := F; exact ⟨c, ⟨K.2.1 a c A.1 q, A.2⟩, r⟩
theorem AF.congr (F : AF Z h a ty n f) (q : ∀ j, j < n → f j = g j) : AF Z h a ty n g := by obtain ⟨c, A, r, u⟩ := F; exact ⟨c, A, r, fun j hj => by rw [u j hj, q j hj]⟩
theorem AF.new {k : ClassId} {z : Int32} (A : Arr Z h a (newA k ty z) ty) (q : z.toNatClampNeg = n) : AF Z h a ty n (fun _ => defaultValue ty) := ⟨_, A, by rw [sz_new]; exact q, fun i hi => by
  rw [← q] at hi; simp [newA, hi]⟩
theorem AF.set (F : AF Z h a ty n f) (W : Wr h h' a sl v) (hs : sl < n) : AF Z h' a ty n (fun k => if k = sl then v else f k) := by
  obtain ⟨c, A, r, u⟩ := F
  refine ⟨_, A.same W, by rw [sz_set]; exact r, fun j hj => ?_⟩
  by_cases q : j = sl
  · subst q; simp [Cell.setSlot, r, hj]
  · have := u j hj
    simp only [Cell.setSlot, if_neg q]
    rw [Array.getElem?_setIfInBounds_ne (fun z => q z.symm)]; exact this
variable {p : Program} {l : Launch} {e : Env} {R : Room} {s : State} {m : MethodId} {args : Array Value} {below : List Frame} {meth : Method} {c : Code} {T : State} {locs : List Loc} {cells slots : Nat}
theorem AF.ldB (F : AF Z h a .byte n f) (X : Stand p l e R s m args below meth c T locs cells slots) (hx : p.tables.exec = Jvm.exec) (hZ : Z.Warmed39 s.vm) (eT : T.heap = h) {j : Int32} {i : Nat} (hj : j.toInt = (i : Int)) (hi : i < n) {v : Value} (hv : f i = v) {g : JFrame} (hg : g.method = m) {rest : List Value} (hs : g.stack = .int j :: .ref a :: rest) (hd : decode c.code g.pc = .ok (.baload, 1)) (target : State)
    (k : Steps p.tables e below (T.setTop { g with pc := g.pc + 1, stack := v :: rest }) target) : Steps p.tables e below (T.setTop g) target := by
  obtain ⟨cl, A, r, u⟩ := F
  exact X.baloadBytes hx (by rw [eT]; exact A.1) (State.isArrayOf_alike hZ.alike A.2.1) A.2.2 (own_inb hj hi r) (by rw [own_tn hj, u i hi, hv]) hg hs hd _ k
theorem AF.ldC (F : AF Z h a .char n f) (X : Stand p l e R s m args below meth c T locs cells slots) (hx : p.tables.exec = Jvm.exec) (hZ : Z.Warmed39 s.vm) (eT : T.heap = h) {j : Int32} {i : Nat} (hj : j.toInt = (i : Int)) (hi : i < n) {v : Value} (hv : f i = v) {g : JFrame} (hg : g.method = m) {rest : List Value} (hs : g.stack = .int j :: .ref a :: rest) (hd : decode c.code g.pc = .ok (.caload, 1)) (target : State)
    (k : Steps p.tables e below (T.setTop { g with pc := g.pc + 1, stack := v :: rest }) target) : Steps p.tables e below (T.setTop g) target := by
  obtain ⟨cl, A, r, u⟩ := F
  exact X.caload hx (by rw [eT]; exact A.1) (State.isArrayOf_alike hZ.alike A.2.1) A.2.2 (own_inb hj hi r) (by rw [own_tn hj, u i hi, hv]) hg hs hd _ k
theorem AF.ldJ (F : AF Z h a .long n f) (X : Stand p l e R s m args below meth c T locs cells slots) (hx : p.tables.exec = Jvm.exec) (hZ : Z.Warmed39 s.vm) (eT : T.heap = h) {j : Int32} {i : Nat} (hj : j.toInt = (i : Int)) (hi : i < n) {v : Value} (hv : f i = v) {g : JFrame} (hg : g.method = m) {rest : List Value} (hs : g.stack = .int j :: .ref a :: rest) (hd : decode c.code g.pc = .ok (.laload, 1)) (target : State)
    (k : Steps p.tables e below (T.setTop { g with pc := g.pc + 1, stack := v :: rest }) target) : Steps p.tables e below (T.setTop g) target := by
  obtain ⟨cl, A, r, u⟩ := F
  exact X.laload hx (by rw [eT]; exact A.1) (State.isArrayOf_alike hZ.alike A.2.1) A.2.2 (own_inb hj hi r) (by rw [own_tn hj, u i hi, hv]) hg hs hd _ k
theorem AF.len (F : AF Z h a ty n f) (X : Stand p l e R s m args below meth c T locs cells slots) (hx : p.tables.exec = Jvm.exec) (hZ : Z.Warmed39 s.vm) (eT : T.heap = h) {z : Int32} (hz : n.toInt32 = z) {g : JFrame} (hg : g.method = m) {rest : List Value} (hs : g.stack = .ref a :: rest) (hd : decode c.code g.pc = .ok (.arraylength, 1)) (target : State)
    (k : Steps p.tables e below (T.setTop { g with pc := g.pc + 1, stack := .int z :: rest }) target) : Steps p.tables e below (T.setTop g) target := by
  obtain ⟨cl, A, r, u⟩ := F
  subst hz r
  exact X.arraylength hx (by rw [eT]; exact A.1) (State.isArrayOf_alike hZ.alike A.2.1) hg hs hd _ k
theorem AF.stB (F : AF Z h a .byte n f) (X : Stand p l e R s m args below meth c T locs cells slots) (hx : p.tables.exec = Jvm.exec) (hZ : Z.Warmed39 s.vm) (eT : T.heap = h) {j x : Int32} {i : Nat} (hj : j.toInt = (i : Int)) (hi : i < n) {g : JFrame} (hg : g.method = m) {rest : List Value} (hs : g.stack = .int x :: .int j :: .ref a :: rest) (hd : decode c.code g.pc = .ok (.bastore, 1)) :
    ∃ T' h', Stand p l e R s m args below meth c T' (locs ++ [⟨a, i⟩]) cells slots ∧ T'.heap = h' ∧ Wr h h' a i (.int (nar .byte x)) ∧ AF Z h' a .byte n (fun k => if k = i then .int (nar .byte x) else f k) ∧ ∀ target, Steps p.tables e below (T'.setTop { g with pc := g.pc + 1, stack := rest }) target → Steps p.tables e below (T.setTop g) target := by
  have F' := F
  obtain ⟨cl, A, r, u⟩ := F
  obtain ⟨T', h', X', e', W', st⟩ := RoadKit.stB X hx hZ eT A (own_inb hj hi r) hg hs hd
  rw [own_tn hj] at X' W'
  exact ⟨T', h', X', e', W', F'.set W' hi, st⟩
theorem AF.stC (F : AF Z h a .char n f) (X : Stand p l e R s m args below meth c T locs cells slots) (hx : p.tables.exec = Jvm.exec) (hZ : Z.Warmed39 s.vm) (eT : T.heap = h) {j x : Int32} {i : Nat} (hj : j.toInt = (i : Int)) (hi : i < n) {g : JFrame} (hg : g.method = m) {rest : List Value} (hs : g.stack = .int x :: .int j :: .ref a :: rest) (hd : decode c.code g.pc = .ok (.castore, 1)) :
    ∃ T' h', Stand p l e R s m args below meth c T' (locs ++ [⟨a, i⟩]) cells slots ∧ T'.heap = h' ∧ Wr h h' a i (.int (nar .char x)) ∧ AF Z h' a .char n (fun k => if k = i then .int (nar .char x) else f k) ∧ ∀ target, Steps p.tables e below (T'.setTop { g with pc := g.pc + 1, stack := rest }) target → Steps p.tables e below (T.setTop g) target := by
  have F' := F
  obtain ⟨cl, A, r, u⟩ := F
  obtain ⟨T', h', X', e', W', st⟩ := RoadKit.stC X hx hZ eT A (own_inb hj hi r) hg hs hd
  rw [own_tn hj] at X' W'
  exact ⟨T', h', X', e', W', F'.set W' hi, st⟩
theorem AF.stJ (F : AF Z h a .long n f) (X : Stand p l e R s m args below meth c T locs cells slots) (hx : p.tables.exec = Jvm.exec) (hZ : Z.Warmed39 s.vm) (eT : T.heap = h) {j : Int32} {x : Int64} {i : Nat} (hj : j.toInt = (i : Int)) (hi : i < n) {g : JFrame} (hg : g.method = m) {rest : List Value} (hs : g.stack = .long x :: .int j :: .ref a :: rest) (hd : decode c.code g.pc = .ok (.lastore, 1)) :
    ∃ T' h', Stand p l e R s m args below meth c T' (locs ++ [⟨a, i⟩]) cells slots ∧ T'.heap = h' ∧ Wr h h' a i (.long x) ∧ AF Z h' a .long n (fun k => if k = i then .long x else f k) ∧ ∀ target, Steps p.tables e below (T'.setTop { g with pc := g.pc + 1, stack := rest }) target → Steps p.tables e below (T.setTop g) target := by
  have F' := F
  obtain ⟨cl, A, r, u⟩ := F
  obtain ⟨T', h', X', e', W', st⟩ := RoadKit.stJ X hx hZ eT A (own_inb hj hi r) hg hs hd
  rw [own_tn hj] at X' W'
  exact ⟨T', h', X', e', W', F'.set W' hi, st⟩
end OwnAF
theorem own_lt {x y : Int32} {a b : Nat} (hx : x.toInt = (a : Int)) (hy : y.toInt = (b : Int)) : x < y ↔ a < b := by rw [Int32.lt_iff_toInt_lt, hx, hy]; omega
theorem own_eqn {x y : Int32} {a b : Nat} (hx : x.toInt = (a : Int)) (hy : y.toInt = (b : Int)) : x = y ↔ a = b := by rw [← Int32.toInt_inj, hx, hy]; omega
theorem own_add {x y : Int32} {a b : Nat} (hx : x.toInt = (a : Int)) (hy : y.toInt = (b : Int)) (h : a + b < 2147483648) : (x + y).toInt = ((a + b : Nat) : Int) := by
  have q1 := c_iadd x y
  have q2 := rng32 (x + y)
  omega
theorem own_iremM (x y : Int32) : x - (x / y) * y = x % y := by
  apply Int32.toInt_inj.mp
  have h1 := Int32.le_toInt (x % y)
  have h2 := Int32.toInt_lt (x % y)
  rw [Int32.toInt_sub, Int32.toInt_mul, Int32.toInt_div, Int.bmod_mul_bmod, Int.sub_bmod_bmod, Int.mul_comm (x.toInt.tdiv y.toInt), ← Int.tmod_def, ← Int32.toInt_mod]
  exact Int.bmod_eq_of_le_mul_two (by omega) (by omega)
theorem own_iremV {x y : Int32} {b : Nat} (hx : 0 ≤ x.toInt) (hy : y.toInt = (b : Int)) : (x - (x / y) * y).toInt = x.toInt % (b : Int) := by
  rw [own_iremM]; exact (c_irem x y b hy).1 hx
theorem own_irem {x y : Int32} {b : Nat} (hx : 0 ≤ x.toInt) (hy : y.toInt = (b : Int)) (hb : 0 < b) : ∃ r : Nat, r < b ∧ (x - (x / y) * y).toInt = (r : Int) := by
  have h := own_iremV hx hy
  have h1 := Int.emod_nonneg x.toInt (b := (b : Int)) (by omega)
  have h2 := Int.emod_lt_of_pos x.toInt (b := (b : Int)) (by omega)
  exact ⟨(x.toInt % (b : Int)).toNat, by omega, by omega⟩
theorem own_mask31 (x : Int32) : 0 ≤ (x &&& 2147483647).toInt := by
  have h := c_mask x 2147483647 31 (by decide) (by decide)
  rw [h]; exact Int.emod_nonneg _ (by decide)
theorem own_ne0 {y : Int32} {b : Nat} (hy : y.toInt = (b : Int)) (hb : 0 < b) : y ≠ 0 := fun h => by
  subst h
  have : (0 : Int32).toInt = 0 := rfl
  omega
def own_at (F : Nat → Int32) (j st sp en : Nat) : Int32 := if j < st then 0 else if j < sp then (if F j = 10 then (0 : Int32) + 1 else if F j = 13 then (if j + 1 < en then (if F (j + 1) = 10 then (0 : Int32) + 1 - 1 else (0 : Int32) + 1) else (0 : Int32) + 1) else 0) else 0
def own_cnt (F : Nat → Int32) (en i : Nat) (B : Int32) : Int32 := if F i = 10 then B + 1 else if F i = 13 then (if i + 1 = en then B + 1 else if F (i + 1) = 10 then B else B + 1) else B
def own_acc (F : Nat → Int32) (en : Nat) : Int32 → Nat → Nat → Int32
  | B, _, 0 => B
  | B, i, k + 1 => own_acc F en (own_cnt F en i B) (i + 1) k
theorem own_cnt_at (F : Nat → Int32) (st sp en i : Nat) (B : Int32) (h1 : st ≤ i) (h2 : i < sp) (h3 : sp ≤ en) : own_cnt F en i B = B + own_at F i st sp en := by
  have a1 : ¬ i < st := by omega
  simp only [own_cnt, own_at, if_neg a1, if_pos h2]
  by_cases q : F i = 10
  · simp [q]
  · simp only [if_neg q]
    by_cases r : F i = 13
    · simp only [if_pos r]
      by_cases u : i + 1 = en
      · have : ¬ i + 1 < en := by omega
        simp [u]
      · have : i + 1 < en := by omega
        simp only [if_neg u, if_pos this]
        by_cases w : F (i + 1) = 10 <;> simp [w]
    · simp [r]
theorem own_out (F : Nat → Int32) (st sp en i : Nat) (h : i < st ∨ sp ≤ i) : own_at F i st sp en = 0 := by
  simp only [own_at]
  by_cases q : i < st
  · simp [q]
  · have : ¬ i < sp := by omega
    simp [q, this]
theorem own_acc_at (F : Nat → Int32) (st sp en : Nat) (h3 : sp ≤ en) : ∀ (k i : Nat) (B : Int32), st ≤ i → i + k = sp → own_acc F en B i k = (List.range' i k).foldl (fun a j => a + own_at F j st sp en) B
  | 0, _, _, _, _ => rfl
  | k + 1, i, B, h1, h2 => by
    rw [own_acc, own_cnt_at F st sp en i B h1 (by omega) h3, own_acc_at F st sp en h3 k (i + 1) _ (by omega) (by omega), List.range'_succ, List.foldl_cons]
theorem own_foldz (F : Nat → Int32) (st sp en : Nat) : ∀ (k i : Nat) (B : Int32), (i + k ≤ st ∨ sp ≤ i) → (List.range' i k).foldl (fun a j => a + own_at F j st sp en) B = B
  | 0, _, _, _ => rfl
  | k + 1, i, B, h => by
    rw [List.range'_succ, List.foldl_cons, own_out F st sp en i (by omega), Int32.add_zero]
    exact own_foldz F st sp en k (i + 1) B (by omega)
theorem own_total (F : Nat → Int32) (st sp en : Nat) (h1 : st ≤ sp) (h2 : sp ≤ en) (h3 : en ≤ 5) :
    own_acc F en 0 st (sp - st) = own_at F 0 st sp en + own_at F 1 st sp en + own_at F 2 st sp en + own_at F 3 st sp en + own_at F 4 st sp en := by
  rw [own_acc_at F st sp en h2 (sp - st) st 0 (Nat.le_refl _) (by omega)]
  have e : List.range' 0 5 = List.range' 0 st ++ List.range' st (sp - st) ++ List.range' sp (5 - sp) := by
    have a : List.range' 0 5 = List.range' 0 (st + (sp - st) + (5 - sp)) := by rw [show st + (sp - st) + (5 - sp) = 5 by omega]
    rw [a, ← List.range'_append_1, ← List.range'_append_1, show 0 + st = st by omega, show 0 + (st + (sp - st)) = sp by omega]
  have f5 : (List.range' 0 5).foldl (fun a j => a + own_at F j st sp en) 0 = own_at F 0 st sp en + own_at F 1 st sp en + own_at F 2 st sp en + own_at F 3 st sp en + own_at F 4 st sp en := by
    show (0 : Int32) + own_at F 0 st sp en + own_at F 1 st sp en + own_at F 2 st sp en + own_at F 3 st sp en + own_at F 4 st sp en = _
    rw [Int32.zero_add]
  rw [← f5, e, List.foldl_append, List.foldl_append, own_foldz F st sp en st 0 0 (by omega), own_foldz F st sp en (5 - sp) sp _ (by omega)]
theorem d1_0 : decode method_3_code 0 = .ok (.iload_n 0, 1) := by decide +kernel
theorem d1_1 : decode method_3_code 1 = .ok (.ifCond .ne 6, 3) := by decide +kernel
theorem d1_4 : decode method_3_code 4 = .ok (.bipush 10, 2) := by decide +kernel
theorem d1_6 : decode method_3_code 6 = .ok (.ireturn, 1) := by decide +kernel
theorem d1_7 : decode method_3_code 7 = .ok (.iload_n 0, 1) := by decide +kernel
theorem d1_8 : decode method_3_code 8 = .ok (.iconst 1, 1) := by decide +kernel
theorem d1_9 : decode method_3_code 9 = .ok (.if_icmp .ne 6, 3) := by decide +kernel
theorem d1_12 : decode method_3_code 12 = .ok (.bipush 13, 2) := by decide +kernel
theorem d1_14 : decode method_3_code 14 = .ok (.ireturn, 1) := by decide +kernel
theorem d1_15 : decode method_3_code 15 = .ok (.iload_n 1, 1) := by decide +kernel
theorem d1_16 : decode method_3_code 16 = .ok (.ireturn, 1) := by decide +kernel
theorem pn_1 : plainName "com/example/belge/belge/XmlScannerLineBreaksPinLaw" = true := by first | (simp [plainName, overriddenIn]; done) | decide +kernel
theorem ef_1 (m : MethodId) (x0 : Int32) (x1 : Int32) : entryFrame m #[(.int x0), (.int x1)] 2 = mkF m 0 #[iv x0, iv x1] [] := by first | (simp [entryFrame, mkF, argsToLocals, Value.category]; done) | rfl
def Q1 (Z : State) (se : Int32) (raw : Int32) (h0 : Heap) (n0 : Nat) (v : Option Value) (h : Heap) (L : List Loc) : Prop := ∃ r : Int32, v = some (.int r) ∧ Fr n0 L ∧ h = h0
set_option maxRecDepth 65536 in
set_option maxHeartbeats 40000000 in
theorem rm1 (l : Launch) (Z : State) (a0 : Array Value) (hw : ∀ d ∈ tables_1, d.before a0 Z = true) (ws : List Jvm.Cond) (se : Int32) (raw : Int32) (h0 : Heap) (n0 : Nat) (Z0 : n0 ≤ h0.size) :
    MetFree l (⟨"com/example/belge/belge/XmlScannerLineBreaksPinLaw", "pick", "(IB)B"⟩ : MethodName) (head1 (Jvm.Cond.code (⟨"com/example/belge/belge/XmlScannerLineBreaksPinLaw", "pick", "(IB)B"⟩ : MethodName) method_3_code 2 (some .byte) :: ws) ({ frames := 0, cells := 0, slots := 0, locals := 0 } : Room)) (fun a U => a = #[(.int se), (.int raw)] ∧ Z.Warmed39 U.vm ∧ U.heap = h0) (fun _ _ _ _ _ => True) (fun _ U o U' => ∃ v L, o = .returned v ∧ Q1 Z se raw h0 n0 v U'.heap L ∧ FrameEnd U o U' L ({ frames := 0, cells := 0, slots := 0, locals := 0 } : Room).cells ({ frames := 0, cells := 0, slots := 0, locals := 0 } : Room).slots) := by
  refine MetFree.of_bodySF (plainFor_of_name pn_1) hisR ?_
  intro p e s m args below meth c s₁ Bd hml0 hP hK
  obtain ⟨rfl, hZ, hh⟩ := hP
  have hx := Bd.exec
  have hby := Bd.bytes
  have hml : c.maxLocals = 2 := hml0
  have hown : s.vm.findClass "com/example/belge/belge/XmlScannerLineBreaksPinLaw" = some m.cls := findClass_of_methodNamed Bd.named
  have hnm := (name_of_methodNamed Bd.named Bd.method).1
  have X0 : Stand p l e ({ frames := 0, cells := 0, slots := 0, locals := 0 } : Room) s m #[(.int se), (.int raw)] below meth c s₁ [] 0 0 := Stand.of_body Bd
  have e0 : s₁.heap = h0 := by rw [← hh, Bd.state]; rfl
  have N0 := Fr.nil n0
  show Ends p.tables e below (fun (s₂ : State) (o : Outcome) => ∃ v L, o = .returned v ∧ (Q1 Z se raw h0 n0) v s₂.heap L ∧ FrameEnd s o s₂ L ({ frames := 0, cells := 0, slots := 0, locals := 0 } : Room).cells ({ frames := 0, cells := 0, slots := 0, locals := 0 } : Room).slots) (s₁.setTop (entryFrame m #[(.int se), (.int raw)] 2))
  refine Ends.any fun G hG => ?_
  refine Ends.go (fun t k => castTop (ef_1 m se raw) k) ?_
  show Ends p.tables e below G (s₁.setTop (mkF m 0 #[iv se, iv raw] []))
  refine Ends.go (fun _ => XS.iloadN X0.here hx rfl (hb hby d1_0) rfl) ?_
  show Ends p.tables e below G (s₁.setTop (mkF m 1 #[iv se, iv raw] [(.int se)]))
  by_cases h1 : (se = (0 : Int32))
  · refine Ends.go (fun _ => XS.ifNo X0.here hx rfl (hb hby d1_1) rfl ((if0 _ _).trans (teq (h1 : se = (0 : Int32))).2)) ?_
    show Ends p.tables e below G (s₁.setTop (mkF m 4 #[iv se, iv raw] []))
    refine Ends.go (fun _ => XS.bipush X0.here hx rfl (hb hby d1_4)) ?_
    show Ends p.tables e below G (s₁.setTop (mkF m 6 #[iv se, iv raw] [(.int (10 : Int32))]))
    refine own_finS (t := .byte) X0 hx Bd.returns (by simp) Bd.notSynchronized (hb hby d1_6) (Q := (Q1 Z se raw h0 n0)) hG (by decide) (by decide) ?_
    show (Q1 Z se raw h0 n0) _ s₁.heap _
    rw [e0]
    exact ⟨_, rfl, N0, rfl⟩
  · refine Ends.go (fun _ => XS.ifYes X0.here hx rfl (pc0 := 1) (pc' := 7) rfl (hb hby d1_1) rfl ((if0 _ _).trans (feq (h1 : ¬ (se = (0 : Int32)))).2) (by decide) (by decide)) ?_
    show Ends p.tables e below G (s₁.setTop (mkF m 7 #[iv se, iv raw] []))
    refine Ends.go (fun _ => XS.iloadN X0.here hx rfl (hb hby d1_7) rfl) ?_
    show Ends p.tables e below G (s₁.setTop (mkF m 8 #[iv se, iv raw] [(.int se)]))
    refine Ends.go (fun _ => XS.iconst X0.here hx rfl (hb hby d1_8)) ?_
    show Ends p.tables e below G (s₁.setTop (mkF m 9 #[iv se, iv raw] [(.int (1 : Int32)), (.int se)]))
    by_cases h2 : (se = (1 : Int32))
    · refine Ends.go (fun _ => XS.icmpNo X0.here hx rfl (hb hby d1_9) rfl (teq (h2 : se = (1 : Int32))).2) ?_
      show Ends p.tables e below G (s₁.setTop (mkF m 12 #[iv se, iv raw] []))
      refine Ends.go (fun _ => XS.bipush X0.here hx rfl (hb hby d1_12)) ?_
      show Ends p.tables e below G (s₁.setTop (mkF m 14 #[iv se, iv raw] [(.int (13 : Int32))]))
      refine own_finS (t := .byte) X0 hx Bd.returns (by simp) Bd.notSynchronized (hb hby d1_14) (Q := (Q1 Z se raw h0 n0)) hG (by decide) (by decide) ?_
      show (Q1 Z se raw h0 n0) _ s₁.heap _
      rw [e0]
      exact ⟨_, rfl, N0, rfl⟩
    · refine Ends.go (fun _ => XS.icmpYes X0.here hx rfl (pc0 := 9) (pc' := 15) rfl (hb hby d1_9) rfl (feq (h2 : ¬ (se = (1 : Int32)))).2 (by decide) (by decide)) ?_
      show Ends p.tables e below G (s₁.setTop (mkF m 15 #[iv se, iv raw] []))
      refine Ends.go (fun _ => XS.iloadN X0.here hx rfl (hb hby d1_15) rfl) ?_
      show Ends p.tables e below G (s₁.setTop (mkF m 16 #[iv se, iv raw] [(.int raw)]))
      refine own_finS (t := .byte) X0 hx Bd.returns (by simp) Bd.notSynchronized (hb hby d1_16) (Q := (Q1 Z se raw h0 n0)) hG (by decide) (by decide) ?_
      show (Q1 Z se raw h0 n0) _ s₁.heap _
      rw [e0]
      exact ⟨_, rfl, N0, rfl⟩
theorem d2_0 : decode method_4_code 0 = .ok (.iload_n 1, 1) := by decide +kernel
theorem d2_1 : decode method_4_code 1 = .ok (.iload_n 2, 1) := by decide +kernel
theorem d2_2 : decode method_4_code 2 = .ok (.if_icmp .lt 8, 3) := by decide +kernel
theorem d2_5 : decode method_4_code 5 = .ok (.iload_n 1, 1) := by decide +kernel
theorem d2_6 : decode method_4_code 6 = .ok (.iload_n 3, 1) := by decide +kernel
theorem d2_7 : decode method_4_code 7 = .ok (.if_icmp .lt 5, 3) := by decide +kernel
theorem d2_10 : decode method_4_code 10 = .ok (.iconst 0, 1) := by decide +kernel
theorem d2_11 : decode method_4_code 11 = .ok (.ireturn, 1) := by decide +kernel
theorem d2_12 : decode method_4_code 12 = .ok (.iconst 0, 1) := by decide +kernel
theorem d2_13 : decode method_4_code 13 = .ok (.istore 5, 2) := by decide +kernel
theorem d2_15 : decode method_4_code 15 = .ok (.aload_n 0, 1) := by decide +kernel
theorem d2_16 : decode method_4_code 16 = .ok (.iload_n 1, 1) := by decide +kernel
theorem d2_17 : decode method_4_code 17 = .ok (.baload, 1) := by decide +kernel
theorem d2_18 : decode method_4_code 18 = .ok (.bipush 10, 2) := by decide +kernel
theorem d2_20 : decode method_4_code 20 = .ok (.if_icmp .ne 9, 3) := by decide +kernel
theorem d2_23 : decode method_4_code 23 = .ok (.iload 5, 2) := by decide +kernel
theorem d2_25 : decode method_4_code 25 = .ok (.iconst 1, 1) := by decide +kernel
theorem d2_26 : decode method_4_code 26 = .ok (.iadd, 1) := by decide +kernel
theorem d2_27 : decode method_4_code 27 = .ok (.istore 5, 2) := by decide +kernel
theorem d2_29 : decode method_4_code 29 = .ok (.aload_n 0, 1) := by decide +kernel
theorem d2_30 : decode method_4_code 30 = .ok (.iload_n 1, 1) := by decide +kernel
theorem d2_31 : decode method_4_code 31 = .ok (.baload, 1) := by decide +kernel
theorem d2_32 : decode method_4_code 32 = .ok (.bipush 13, 2) := by decide +kernel
theorem d2_34 : decode method_4_code 34 = .ok (.if_icmp .ne 9, 3) := by decide +kernel
theorem d2_37 : decode method_4_code 37 = .ok (.iload 5, 2) := by decide +kernel
theorem d2_39 : decode method_4_code 39 = .ok (.iconst 1, 1) := by decide +kernel
theorem d2_40 : decode method_4_code 40 = .ok (.iadd, 1) := by decide +kernel
theorem d2_41 : decode method_4_code 41 = .ok (.istore 5, 2) := by decide +kernel
theorem d2_43 : decode method_4_code 43 = .ok (.iload_n 1, 1) := by decide +kernel
theorem d2_44 : decode method_4_code 44 = .ok (.iconst 1, 1) := by decide +kernel
theorem d2_45 : decode method_4_code 45 = .ok (.iadd, 1) := by decide +kernel
theorem d2_46 : decode method_4_code 46 = .ok (.iload 4, 2) := by decide +kernel
theorem d2_48 : decode method_4_code 48 = .ok (.if_icmp .ge 27, 3) := by decide +kernel
theorem d2_51 : decode method_4_code 51 = .ok (.aload_n 0, 1) := by decide +kernel
theorem d2_52 : decode method_4_code 52 = .ok (.iload_n 1, 1) := by decide +kernel
theorem d2_53 : decode method_4_code 53 = .ok (.baload, 1) := by decide +kernel
theorem d2_54 : decode method_4_code 54 = .ok (.bipush 13, 2) := by decide +kernel
theorem d2_56 : decode method_4_code 56 = .ok (.if_icmp .ne 19, 3) := by decide +kernel
theorem d2_59 : decode method_4_code 59 = .ok (.aload_n 0, 1) := by decide +kernel
theorem d2_60 : decode method_4_code 60 = .ok (.iload_n 1, 1) := by decide +kernel
theorem d2_61 : decode method_4_code 61 = .ok (.iconst 1, 1) := by decide +kernel
theorem d2_62 : decode method_4_code 62 = .ok (.iadd, 1) := by decide +kernel
theorem d2_63 : decode method_4_code 63 = .ok (.baload, 1) := by decide +kernel
theorem d2_64 : decode method_4_code 64 = .ok (.bipush 10, 2) := by decide +kernel
theorem d2_66 : decode method_4_code 66 = .ok (.if_icmp .ne 9, 3) := by decide +kernel
theorem d2_69 : decode method_4_code 69 = .ok (.iload 5, 2) := by decide +kernel
theorem d2_71 : decode method_4_code 71 = .ok (.iconst 1, 1) := by decide +kernel
theorem d2_72 : decode method_4_code 72 = .ok (.isub, 1) := by decide +kernel
theorem d2_73 : decode method_4_code 73 = .ok (.istore 5, 2) := by decide +kernel
theorem d2_75 : decode method_4_code 75 = .ok (.iload 5, 2) := by decide +kernel
theorem d2_77 : decode method_4_code 77 = .ok (.ireturn, 1) := by decide +kernel
theorem pn_2 : plainName "com/example/belge/belge/XmlScannerLineBreaksPinLaw" = true := by first | (simp [plainName, overriddenIn]; done) | decide +kernel
theorem ef_2 (m : MethodId) (x0 : Addr) (x1 : Int32) (x2 : Int32) (x3 : Int32) (x4 : Int32) : entryFrame m #[(.ref x0), (.int x1), (.int x2), (.int x3), (.int x4)] 6 = mkF m 0 #[rv x0, iv x1, iv x2, iv x3, iv x4, un] [] := by first | (simp [entryFrame, mkF, argsToLocals, Value.category]; done) | rfl
def Q2 (Z : State) (b : Addr) (jv : Int32) (stv : Int32) (spv : Int32) (env : Int32) (F : Nat → Int32) (j : Nat) (st : Nat) (sp : Nat) (en : Nat) (h0 : Heap) (n0 : Nat) (v : Option Value) (h : Heap) (L : List Loc) : Prop := v = some (.int (own_at F j st sp en)) ∧ Fr n0 L ∧ h = h0
set_option maxRecDepth 65536 in
set_option maxHeartbeats 40000000 in
theorem rm2 (l : Launch) (Z : State) (a0 : Array Value) (hw : ∀ d ∈ tables_1, d.before a0 Z = true) (ws : List Jvm.Cond) (b : Addr) (jv : Int32) (stv : Int32) (spv : Int32) (env : Int32) (F : Nat → Int32) (j : Nat) (st : Nat) (sp : Nat) (en : Nat) (h0 : Heap) (n0 : Nat) (Z0 : n0 ≤ h0.size) (V_b : AF Z h0 b .byte 5 (fun k => .int (F k))) (hj : jv.toInt = (j : Int)) (hj5 : j < 5) (hst : stv.toInt = (st : Int)) (hsp : spv.toInt = (sp : Int)) (hen : env.toInt = (en : Int)) (h1 : st ≤ sp) (h2 : sp ≤ en) (h3 : en ≤ 5) :
    MetFree l (⟨"com/example/belge/belge/XmlScannerLineBreaksPinLaw", "at", "([BIIII)I"⟩ : MethodName) (head1 (Jvm.Cond.code (⟨"com/example/belge/belge/XmlScannerLineBreaksPinLaw", "at", "([BIIII)I"⟩ : MethodName) method_4_code 6 (some .int) :: ws) ({ frames := 0, cells := 0, slots := 0, locals := 0 } : Room)) (fun a U => a = #[(.ref b), (.int jv), (.int stv), (.int spv), (.int env)] ∧ Z.Warmed39 U.vm ∧ U.heap = h0) (fun _ _ _ _ _ => True) (fun _ U o U' => ∃ v L, o = .returned v ∧ Q2 Z b jv stv spv env F j st sp en h0 n0 v U'.heap L ∧ FrameEnd U o U' L ({ frames := 0, cells := 0, slots := 0, locals := 0 } : Room).cells ({ frames := 0, cells := 0, slots := 0, locals := 0 } : Room).slots) := by
  refine MetFree.of_bodySF (plainFor_of_name pn_2) hisR ?_
  intro p e s m args below meth c s₁ Bd hml0 hP hK
  obtain ⟨rfl, hZ, hh⟩ := hP
  have hx := Bd.exec
  have hby := Bd.bytes
  have hml : c.maxLocals = 6 := hml0
  have hown : s.vm.findClass "com/example/belge/belge/XmlScannerLineBreaksPinLaw" = some m.cls := findClass_of_methodNamed Bd.named
  have hnm := (name_of_methodNamed Bd.named Bd.method).1
  have X0 : Stand p l e ({ frames := 0, cells := 0, slots := 0, locals := 0 } : Room) s m #[(.ref b), (.int jv), (.int stv), (.int spv), (.int env)] below meth c s₁ [] 0 0 := Stand.of_body Bd
  have e0 : s₁.heap = h0 := by rw [← hh, Bd.state]; rfl
  have N0 := Fr.nil n0
  show Ends p.tables e below (fun (s₂ : State) (o : Outcome) => ∃ v L, o = .returned v ∧ (Q2 Z b jv stv spv env F j st sp en h0 n0) v s₂.heap L ∧ FrameEnd s o s₂ L ({ frames := 0, cells := 0, slots := 0, locals := 0 } : Room).cells ({ frames := 0, cells := 0, slots := 0, locals := 0 } : Room).slots) (s₁.setTop (entryFrame m #[(.ref b), (.int jv), (.int stv), (.int spv), (.int env)] 6))
  refine Ends.any fun G hG => ?_
  refine Ends.go (fun t k => castTop (ef_2 m b jv stv spv env) k) ?_
  show Ends p.tables e below G (s₁.setTop (mkF m 0 #[rv b, iv jv, iv stv, iv spv, iv env, un] []))
  refine Ends.go (fun _ => XS.iloadN X0.here hx rfl (hb hby d2_0) rfl) ?_
  show Ends p.tables e below G (s₁.setTop (mkF m 1 #[rv b, iv jv, iv stv, iv spv, iv env, un] [(.int jv)]))
  refine Ends.go (fun _ => XS.iloadN X0.here hx rfl (hb hby d2_1) rfl) ?_
  show Ends p.tables e below G (s₁.setTop (mkF m 2 #[rv b, iv jv, iv stv, iv spv, iv env, un] [(.int stv), (.int jv)]))
  by_cases q1 : j < st
  · refine Ends.go (fun _ => XS.icmpYes X0.here hx rfl (pc0 := 2) (pc' := 10) rfl (hb hby d2_2) rfl (tlt ((own_lt hj hst).mpr q1 : jv < stv)).1 (by decide) (by decide)) ?_
    show Ends p.tables e below G (s₁.setTop (mkF m 10 #[rv b, iv jv, iv stv, iv spv, iv env, un] []))
    refine Ends.go (fun _ => XS.iconst X0.here hx rfl (hb hby d2_10)) ?_
    show Ends p.tables e below G (s₁.setTop (mkF m 11 #[rv b, iv jv, iv stv, iv spv, iv env, un] [(.int (0 : Int32))]))
    refine own_finI X0 hx Bd.returns Bd.notSynchronized (hb hby d2_11) (Q := (Q2 Z b jv stv spv env F j st sp en h0 n0)) hG (by decide) (by decide) ?_
    show (Q2 Z b jv stv spv env F j st sp en h0 n0) _ s₁.heap _
    rw [e0]
    exact ⟨by simp [own_at, q1], N0, rfl⟩
  · refine Ends.go (fun _ => XS.icmpNo X0.here hx rfl (hb hby d2_2) rfl (flt (fun z => q1 ((own_lt hj hst).mp z) : ¬ (jv < stv))).1) ?_
    show Ends p.tables e below G (s₁.setTop (mkF m 5 #[rv b, iv jv, iv stv, iv spv, iv env, un] []))
    refine Ends.go (fun _ => XS.iloadN X0.here hx rfl (hb hby d2_5) rfl) ?_
    show Ends p.tables e below G (s₁.setTop (mkF m 6 #[rv b, iv jv, iv stv, iv spv, iv env, un] [(.int jv)]))
    refine Ends.go (fun _ => XS.iloadN X0.here hx rfl (hb hby d2_6) rfl) ?_
    show Ends p.tables e below G (s₁.setTop (mkF m 7 #[rv b, iv jv, iv stv, iv spv, iv env, un] [(.int spv), (.int jv)]))
    by_cases q2 : j < sp
    · refine Ends.go (fun _ => XS.icmpYes X0.here hx rfl (pc0 := 7) (pc' := 12) rfl (hb hby d2_7) rfl (tlt ((own_lt hj hsp).mpr q2 : jv < spv)).1 (by decide) (by decide)) ?_
      show Ends p.tables e below G (s₁.setTop (mkF m 12 #[rv b, iv jv, iv stv, iv spv, iv env, un] []))
      refine Ends.go (fun _ => XS.iconst X0.here hx rfl (hb hby d2_12)) ?_
      show Ends p.tables e below G (s₁.setTop (mkF m 13 #[rv b, iv jv, iv stv, iv spv, iv env, un] [(.int (0 : Int32))]))
      refine Ends.go (fun _ => XS.istore X0.here hx rfl (hb hby d2_13) rfl (l' := #[rv b, iv jv, iv stv, iv spv, iv env, iv (0 : Int32)]) rfl) ?_
      show Ends p.tables e below G (s₁.setTop (mkF m 15 #[rv b, iv jv, iv stv, iv spv, iv env, iv (0 : Int32)] []))
      refine Ends.go (fun _ => XS.aloadN X0.here hx rfl (hb hby d2_15) rfl rfl) ?_
      show Ends p.tables e below G (s₁.setTop (mkF m 16 #[rv b, iv jv, iv stv, iv spv, iv env, iv (0 : Int32)] [(.ref b)]))
      refine Ends.go (fun _ => XS.iloadN X0.here hx rfl (hb hby d2_16) rfl) ?_
      show Ends p.tables e below G (s₁.setTop (mkF m 17 #[rv b, iv jv, iv stv, iv spv, iv env, iv (0 : Int32)] [(.int jv), (.ref b)]))
      refine Ends.go (fun _ => AF.ldB V_b X0 hx hZ e0 (j := jv) (i := j) hj hj5 (v := (.int (F j))) rfl (g := (mkF m 17 #[rv b, iv jv, iv stv, iv spv, iv env, iv (0 : Int32)] [(.int jv), (.ref b)])) rfl rfl (hb hby d2_17) _) ?_
      show Ends p.tables e below G (s₁.setTop (mkF m 18 #[rv b, iv jv, iv stv, iv spv, iv env, iv (0 : Int32)] [(.int (F j))]))
      refine Ends.go (fun _ => XS.bipush X0.here hx rfl (hb hby d2_18)) ?_
      show Ends p.tables e below G (s₁.setTop (mkF m 20 #[rv b, iv jv, iv stv, iv spv, iv env, iv (0 : Int32)] [(.int (10 : Int32)), (.int (F j))]))
      by_cases q3 : F j = 10
      · refine Ends.go (fun _ => XS.icmpNo X0.here hx rfl (hb hby d2_20) rfl (teq (q3 : (F j) = (10 : Int32))).2) ?_
        show Ends p.tables e below G (s₁.setTop (mkF m 23 #[rv b, iv jv, iv stv, iv spv, iv env, iv (0 : Int32)] []))
        refine Ends.go (fun _ => XS.iload X0.here hx rfl (hb hby d2_23) rfl) ?_
        show Ends p.tables e below G (s₁.setTop (mkF m 25 #[rv b, iv jv, iv stv, iv spv, iv env, iv (0 : Int32)] [(.int (0 : Int32))]))
        refine Ends.go (fun _ => XS.iconst X0.here hx rfl (hb hby d2_25)) ?_
        show Ends p.tables e below G (s₁.setTop (mkF m 26 #[rv b, iv jv, iv stv, iv spv, iv env, iv (0 : Int32)] [(.int (1 : Int32)), (.int (0 : Int32))]))
        refine Ends.go (fun _ => XS.iadd X0.here hx rfl (hb hby d2_26) rfl) ?_
        show Ends p.tables e below G (s₁.setTop (mkF m 27 #[rv b, iv jv, iv stv, iv spv, iv env, iv (0 : Int32)] [(.int ((0 : Int32) + (1 : Int32)))]))
        refine Ends.go (fun _ => XS.istore X0.here hx rfl (hb hby d2_27) rfl (l' := #[rv b, iv jv, iv stv, iv spv, iv env, iv ((0 : Int32) + (1 : Int32))]) rfl) ?_
        show Ends p.tables e below G (s₁.setTop (mkF m 29 #[rv b, iv jv, iv stv, iv spv, iv env, iv ((0 : Int32) + (1 : Int32))] []))
        refine Ends.go (fun _ => XS.aloadN X0.here hx rfl (hb hby d2_29) rfl rfl) ?_
        show Ends p.tables e below G (s₁.setTop (mkF m 30 #[rv b, iv jv, iv stv, iv spv, iv env, iv ((0 : Int32) + (1 : Int32))] [(.ref b)]))
        refine Ends.go (fun _ => XS.iloadN X0.here hx rfl (hb hby d2_30) rfl) ?_
        show Ends p.tables e below G (s₁.setTop (mkF m 31 #[rv b, iv jv, iv stv, iv spv, iv env, iv ((0 : Int32) + (1 : Int32))] [(.int jv), (.ref b)]))
        refine Ends.go (fun _ => AF.ldB V_b X0 hx hZ e0 (j := jv) (i := j) hj hj5 (v := (.int (F j))) rfl (g := (mkF m 31 #[rv b, iv jv, iv stv, iv spv, iv env, iv ((0 : Int32) + (1 : Int32))] [(.int jv), (.ref b)])) rfl rfl (hb hby d2_31) _) ?_
        show Ends p.tables e below G (s₁.setTop (mkF m 32 #[rv b, iv jv, iv stv, iv spv, iv env, iv ((0 : Int32) + (1 : Int32))] [(.int (F j))]))
        refine Ends.go (fun _ => XS.bipush X0.here hx rfl (hb hby d2_32)) ?_
        show Ends p.tables e below G (s₁.setTop (mkF m 34 #[rv b, iv jv, iv stv, iv spv, iv env, iv ((0 : Int32) + (1 : Int32))] [(.int (13 : Int32)), (.int (F j))]))
        refine Ends.go (fun _ => XS.icmpYes X0.here hx rfl (pc0 := 34) (pc' := 43) rfl (hb hby d2_34) rfl (feq (by rw [q3]; decide : ¬ ((F j) = (13 : Int32)))).2 (by decide) (by decide)) ?_
        show Ends p.tables e below G (s₁.setTop (mkF m 43 #[rv b, iv jv, iv stv, iv spv, iv env, iv ((0 : Int32) + (1 : Int32))] []))
        refine Ends.go (fun _ => XS.iloadN X0.here hx rfl (hb hby d2_43) rfl) ?_
        show Ends p.tables e below G (s₁.setTop (mkF m 44 #[rv b, iv jv, iv stv, iv spv, iv env, iv ((0 : Int32) + (1 : Int32))] [(.int jv)]))
        refine Ends.go (fun _ => XS.iconst X0.here hx rfl (hb hby d2_44)) ?_
        show Ends p.tables e below G (s₁.setTop (mkF m 45 #[rv b, iv jv, iv stv, iv spv, iv env, iv ((0 : Int32) + (1 : Int32))] [(.int (1 : Int32)), (.int jv)]))
        refine Ends.go (fun _ => XS.iadd X0.here hx rfl (hb hby d2_45) rfl) ?_
        show Ends p.tables e below G (s₁.setTop (mkF m 46 #[rv b, iv jv, iv stv, iv spv, iv env, iv ((0 : Int32) + (1 : Int32))] [(.int (jv + (1 : Int32)))]))
        refine Ends.go (fun _ => XS.iload X0.here hx rfl (hb hby d2_46) rfl) ?_
        show Ends p.tables e below G (s₁.setTop (mkF m 48 #[rv b, iv jv, iv stv, iv spv, iv env, iv ((0 : Int32) + (1 : Int32))] [(.int env), (.int (jv + (1 : Int32)))]))
        by_cases q5 : j + 1 < en
        · refine Ends.go (fun _ => XS.icmpNo X0.here hx rfl (hb hby d2_48) rfl (tlt ((own_lt (own_add hj (b := 1) rfl (by omega)) hen).mpr q5 : (jv + (1 : Int32)) < env)).2.1) ?_
          show Ends p.tables e below G (s₁.setTop (mkF m 51 #[rv b, iv jv, iv stv, iv spv, iv env, iv ((0 : Int32) + (1 : Int32))] []))
          refine Ends.go (fun _ => XS.aloadN X0.here hx rfl (hb hby d2_51) rfl rfl) ?_
          show Ends p.tables e below G (s₁.setTop (mkF m 52 #[rv b, iv jv, iv stv, iv spv, iv env, iv ((0 : Int32) + (1 : Int32))] [(.ref b)]))
          refine Ends.go (fun _ => XS.iloadN X0.here hx rfl (hb hby d2_52) rfl) ?_
          show Ends p.tables e below G (s₁.setTop (mkF m 53 #[rv b, iv jv, iv stv, iv spv, iv env, iv ((0 : Int32) + (1 : Int32))] [(.int jv), (.ref b)]))
          refine Ends.go (fun _ => AF.ldB V_b X0 hx hZ e0 (j := jv) (i := j) hj hj5 (v := (.int (F j))) rfl (g := (mkF m 53 #[rv b, iv jv, iv stv, iv spv, iv env, iv ((0 : Int32) + (1 : Int32))] [(.int jv), (.ref b)])) rfl rfl (hb hby d2_53) _) ?_
          show Ends p.tables e below G (s₁.setTop (mkF m 54 #[rv b, iv jv, iv stv, iv spv, iv env, iv ((0 : Int32) + (1 : Int32))] [(.int (F j))]))
          refine Ends.go (fun _ => XS.bipush X0.here hx rfl (hb hby d2_54)) ?_
          show Ends p.tables e below G (s₁.setTop (mkF m 56 #[rv b, iv jv, iv stv, iv spv, iv env, iv ((0 : Int32) + (1 : Int32))] [(.int (13 : Int32)), (.int (F j))]))
          refine Ends.go (fun _ => XS.icmpYes X0.here hx rfl (pc0 := 56) (pc' := 75) rfl (hb hby d2_56) rfl (feq (by rw [q3]; decide : ¬ ((F j) = (13 : Int32)))).2 (by decide) (by decide)) ?_
          show Ends p.tables e below G (s₁.setTop (mkF m 75 #[rv b, iv jv, iv stv, iv spv, iv env, iv ((0 : Int32) + (1 : Int32))] []))
          refine Ends.go (fun _ => XS.iload X0.here hx rfl (hb hby d2_75) rfl) ?_
          show Ends p.tables e below G (s₁.setTop (mkF m 77 #[rv b, iv jv, iv stv, iv spv, iv env, iv ((0 : Int32) + (1 : Int32))] [(.int ((0 : Int32) + (1 : Int32)))]))
          refine own_finI X0 hx Bd.returns Bd.notSynchronized (hb hby d2_77) (Q := (Q2 Z b jv stv spv env F j st sp en h0 n0)) hG (by decide) (by decide) ?_
          show (Q2 Z b jv stv spv env F j st sp en h0 n0) _ s₁.heap _
          rw [e0]
          exact ⟨by simp [own_at, q1, q2, q3, q5], N0, rfl⟩
        · refine Ends.go (fun _ => XS.icmpYes X0.here hx rfl (pc0 := 48) (pc' := 75) rfl (hb hby d2_48) rfl (flt (fun z => q5 ((own_lt (own_add hj (b := 1) rfl (by omega)) hen).mp z) : ¬ ((jv + (1 : Int32)) < env))).2.1 (by decide) (by decide)) ?_
          show Ends p.tables e below G (s₁.setTop (mkF m 75 #[rv b, iv jv, iv stv, iv spv, iv env, iv ((0 : Int32) + (1 : Int32))] []))
          refine Ends.go (fun _ => XS.iload X0.here hx rfl (hb hby d2_75) rfl) ?_
          show Ends p.tables e below G (s₁.setTop (mkF m 77 #[rv b, iv jv, iv stv, iv spv, iv env, iv ((0 : Int32) + (1 : Int32))] [(.int ((0 : Int32) + (1 : Int32)))]))
          refine own_finI X0 hx Bd.returns Bd.notSynchronized (hb hby d2_77) (Q := (Q2 Z b jv stv spv env F j st sp en h0 n0)) hG (by decide) (by decide) ?_
          show (Q2 Z b jv stv spv env F j st sp en h0 n0) _ s₁.heap _
          rw [e0]
          exact ⟨by simp [own_at, q1, q2, q3, q5], N0, rfl⟩
      · refine Ends.go (fun _ => XS.icmpYes X0.here hx rfl (pc0 := 20) (pc' := 29) rfl (hb hby d2_20) rfl (feq (q3 : ¬ ((F j) = (10 : Int32)))).2 (by decide) (by decide)) ?_
        show Ends p.tables e below G (s₁.setTop (mkF m 29 #[rv b, iv jv, iv stv, iv spv, iv env, iv (0 : Int32)] []))
        refine Ends.go (fun _ => XS.aloadN X0.here hx rfl (hb hby d2_29) rfl rfl) ?_
        show Ends p.tables e below G (s₁.setTop (mkF m 30 #[rv b, iv jv, iv stv, iv spv, iv env, iv (0 : Int32)] [(.ref b)]))
        refine Ends.go (fun _ => XS.iloadN X0.here hx rfl (hb hby d2_30) rfl) ?_
        show Ends p.tables e below G (s₁.setTop (mkF m 31 #[rv b, iv jv, iv stv, iv spv, iv env, iv (0 : Int32)] [(.int jv), (.ref b)]))
        refine Ends.go (fun _ => AF.ldB V_b X0 hx hZ e0 (j := jv) (i := j) hj hj5 (v := (.int (F j))) rfl (g := (mkF m 31 #[rv b, iv jv, iv stv, iv spv, iv env, iv (0 : Int32)] [(.int jv), (.ref b)])) rfl rfl (hb hby d2_31) _) ?_
        show Ends p.tables e below G (s₁.setTop (mkF m 32 #[rv b, iv jv, iv stv, iv spv, iv env, iv (0 : Int32)] [(.int (F j))]))
        refine Ends.go (fun _ => XS.bipush X0.here hx rfl (hb hby d2_32)) ?_
        show Ends p.tables e below G (s₁.setTop (mkF m 34 #[rv b, iv jv, iv stv, iv spv, iv env, iv (0 : Int32)] [(.int (13 : Int32)), (.int (F j))]))
        by_cases q4 : F j = 13
        · refine Ends.go (fun _ => XS.icmpNo X0.here hx rfl (hb hby d2_34) rfl (teq (q4 : (F j) = (13 : Int32))).2) ?_
          show Ends p.tables e below G (s₁.setTop (mkF m 37 #[rv b, iv jv, iv stv, iv spv, iv env, iv (0 : Int32)] []))
          refine Ends.go (fun _ => XS.iload X0.here hx rfl (hb hby d2_37) rfl) ?_
          show Ends p.tables e below G (s₁.setTop (mkF m 39 #[rv b, iv jv, iv stv, iv spv, iv env, iv (0 : Int32)] [(.int (0 : Int32))]))
          refine Ends.go (fun _ => XS.iconst X0.here hx rfl (hb hby d2_39)) ?_
          show Ends p.tables e below G (s₁.setTop (mkF m 40 #[rv b, iv jv, iv stv, iv spv, iv env, iv (0 : Int32)] [(.int (1 : Int32)), (.int (0 : Int32))]))
          refine Ends.go (fun _ => XS.iadd X0.here hx rfl (hb hby d2_40) rfl) ?_
          show Ends p.tables e below G (s₁.setTop (mkF m 41 #[rv b, iv jv, iv stv, iv spv, iv env, iv (0 : Int32)] [(.int ((0 : Int32) + (1 : Int32)))]))
          refine Ends.go (fun _ => XS.istore X0.here hx rfl (hb hby d2_41) rfl (l' := #[rv b, iv jv, iv stv, iv spv, iv env, iv ((0 : Int32) + (1 : Int32))]) rfl) ?_
          show Ends p.tables e below G (s₁.setTop (mkF m 43 #[rv b, iv jv, iv stv, iv spv, iv env, iv ((0 : Int32) + (1 : Int32))] []))
          refine Ends.go (fun _ => XS.iloadN X0.here hx rfl (hb hby d2_43) rfl) ?_
          show Ends p.tables e below G (s₁.setTop (mkF m 44 #[rv b, iv jv, iv stv, iv spv, iv env, iv ((0 : Int32) + (1 : Int32))] [(.int jv)]))
          refine Ends.go (fun _ => XS.iconst X0.here hx rfl (hb hby d2_44)) ?_
          show Ends p.tables e below G (s₁.setTop (mkF m 45 #[rv b, iv jv, iv stv, iv spv, iv env, iv ((0 : Int32) + (1 : Int32))] [(.int (1 : Int32)), (.int jv)]))
          refine Ends.go (fun _ => XS.iadd X0.here hx rfl (hb hby d2_45) rfl) ?_
          show Ends p.tables e below G (s₁.setTop (mkF m 46 #[rv b, iv jv, iv stv, iv spv, iv env, iv ((0 : Int32) + (1 : Int32))] [(.int (jv + (1 : Int32)))]))
          refine Ends.go (fun _ => XS.iload X0.here hx rfl (hb hby d2_46) rfl) ?_
          show Ends p.tables e below G (s₁.setTop (mkF m 48 #[rv b, iv jv, iv stv, iv spv, iv env, iv ((0 : Int32) + (1 : Int32))] [(.int env), (.int (jv + (1 : Int32)))]))
          by_cases q5 : j + 1 < en
          · refine Ends.go (fun _ => XS.icmpNo X0.here hx rfl (hb hby d2_48) rfl (tlt ((own_lt (own_add hj (b := 1) rfl (by omega)) hen).mpr q5 : (jv + (1 : Int32)) < env)).2.1) ?_
            show Ends p.tables e below G (s₁.setTop (mkF m 51 #[rv b, iv jv, iv stv, iv spv, iv env, iv ((0 : Int32) + (1 : Int32))] []))
            refine Ends.go (fun _ => XS.aloadN X0.here hx rfl (hb hby d2_51) rfl rfl) ?_
            show Ends p.tables e below G (s₁.setTop (mkF m 52 #[rv b, iv jv, iv stv, iv spv, iv env, iv ((0 : Int32) + (1 : Int32))] [(.ref b)]))
            refine Ends.go (fun _ => XS.iloadN X0.here hx rfl (hb hby d2_52) rfl) ?_
            show Ends p.tables e below G (s₁.setTop (mkF m 53 #[rv b, iv jv, iv stv, iv spv, iv env, iv ((0 : Int32) + (1 : Int32))] [(.int jv), (.ref b)]))
            refine Ends.go (fun _ => AF.ldB V_b X0 hx hZ e0 (j := jv) (i := j) hj hj5 (v := (.int (F j))) rfl (g := (mkF m 53 #[rv b, iv jv, iv stv, iv spv, iv env, iv ((0 : Int32) + (1 : Int32))] [(.int jv), (.ref b)])) rfl rfl (hb hby d2_53) _) ?_
            show Ends p.tables e below G (s₁.setTop (mkF m 54 #[rv b, iv jv, iv stv, iv spv, iv env, iv ((0 : Int32) + (1 : Int32))] [(.int (F j))]))
            refine Ends.go (fun _ => XS.bipush X0.here hx rfl (hb hby d2_54)) ?_
            show Ends p.tables e below G (s₁.setTop (mkF m 56 #[rv b, iv jv, iv stv, iv spv, iv env, iv ((0 : Int32) + (1 : Int32))] [(.int (13 : Int32)), (.int (F j))]))
            refine Ends.go (fun _ => XS.icmpNo X0.here hx rfl (hb hby d2_56) rfl (teq (q4 : (F j) = (13 : Int32))).2) ?_
            show Ends p.tables e below G (s₁.setTop (mkF m 59 #[rv b, iv jv, iv stv, iv spv, iv env, iv ((0 : Int32) + (1 : Int32))] []))
            refine Ends.go (fun _ => XS.aloadN X0.here hx rfl (hb hby d2_59) rfl rfl) ?_
            show Ends p.tables e below G (s₁.setTop (mkF m 60 #[rv b, iv jv, iv stv, iv spv, iv env, iv ((0 : Int32) + (1 : Int32))] [(.ref b)]))
            refine Ends.go (fun _ => XS.iloadN X0.here hx rfl (hb hby d2_60) rfl) ?_
            show Ends p.tables e below G (s₁.setTop (mkF m 61 #[rv b, iv jv, iv stv, iv spv, iv env, iv ((0 : Int32) + (1 : Int32))] [(.int jv), (.ref b)]))
            refine Ends.go (fun _ => XS.iconst X0.here hx rfl (hb hby d2_61)) ?_
            show Ends p.tables e below G (s₁.setTop (mkF m 62 #[rv b, iv jv, iv stv, iv spv, iv env, iv ((0 : Int32) + (1 : Int32))] [(.int (1 : Int32)), (.int jv), (.ref b)]))
            refine Ends.go (fun _ => XS.iadd X0.here hx rfl (hb hby d2_62) rfl) ?_
            show Ends p.tables e below G (s₁.setTop (mkF m 63 #[rv b, iv jv, iv stv, iv spv, iv env, iv ((0 : Int32) + (1 : Int32))] [(.int (jv + (1 : Int32))), (.ref b)]))
            refine Ends.go (fun _ => AF.ldB V_b X0 hx hZ e0 (j := (jv + (1 : Int32))) (i := (j + 1)) (own_add hj (b := 1) rfl (by omega)) (by omega) (v := (.int (F (j + 1)))) rfl (g := (mkF m 63 #[rv b, iv jv, iv stv, iv spv, iv env, iv ((0 : Int32) + (1 : Int32))] [(.int (jv + (1 : Int32))), (.ref b)])) rfl rfl (hb hby d2_63) _) ?_
            show Ends p.tables e below G (s₁.setTop (mkF m 64 #[rv b, iv jv, iv stv, iv spv, iv env, iv ((0 : Int32) + (1 : Int32))] [(.int (F (j + 1)))]))
            refine Ends.go (fun _ => XS.bipush X0.here hx rfl (hb hby d2_64)) ?_
            show Ends p.tables e below G (s₁.setTop (mkF m 66 #[rv b, iv jv, iv stv, iv spv, iv env, iv ((0 : Int32) + (1 : Int32))] [(.int (10 : Int32)), (.int (F (j + 1)))]))
            by_cases q6 : F (j + 1) = 10
            · refine Ends.go (fun _ => XS.icmpNo X0.here hx rfl (hb hby d2_66) rfl (teq (q6 : (F (j + 1)) = (10 : Int32))).2) ?_
              show Ends p.tables e below G (s₁.setTop (mkF m 69 #[rv b, iv jv, iv stv, iv spv, iv env, iv ((0 : Int32) + (1 : Int32))] []))
              refine Ends.go (fun _ => XS.iload X0.here hx rfl (hb hby d2_69) rfl) ?_
              show Ends p.tables e below G (s₁.setTop (mkF m 71 #[rv b, iv jv, iv stv, iv spv, iv env, iv ((0 : Int32) + (1 : Int32))] [(.int ((0 : Int32) + (1 : Int32)))]))
              refine Ends.go (fun _ => XS.iconst X0.here hx rfl (hb hby d2_71)) ?_
              show Ends p.tables e below G (s₁.setTop (mkF m 72 #[rv b, iv jv, iv stv, iv spv, iv env, iv ((0 : Int32) + (1 : Int32))] [(.int (1 : Int32)), (.int ((0 : Int32) + (1 : Int32)))]))
              refine Ends.go (fun _ => XS.isub X0.here hx rfl (hb hby d2_72) rfl) ?_
              show Ends p.tables e below G (s₁.setTop (mkF m 73 #[rv b, iv jv, iv stv, iv spv, iv env, iv ((0 : Int32) + (1 : Int32))] [(.int (((0 : Int32) + (1 : Int32)) - (1 : Int32)))]))
              refine Ends.go (fun _ => XS.istore X0.here hx rfl (hb hby d2_73) rfl (l' := #[rv b, iv jv, iv stv, iv spv, iv env, iv (((0 : Int32) + (1 : Int32)) - (1 : Int32))]) rfl) ?_
              show Ends p.tables e below G (s₁.setTop (mkF m 75 #[rv b, iv jv, iv stv, iv spv, iv env, iv (((0 : Int32) + (1 : Int32)) - (1 : Int32))] []))
              refine Ends.go (fun _ => XS.iload X0.here hx rfl (hb hby d2_75) rfl) ?_
              show Ends p.tables e below G (s₁.setTop (mkF m 77 #[rv b, iv jv, iv stv, iv spv, iv env, iv (((0 : Int32) + (1 : Int32)) - (1 : Int32))] [(.int (((0 : Int32) + (1 : Int32)) - (1 : Int32)))]))
              refine own_finI X0 hx Bd.returns Bd.notSynchronized (hb hby d2_77) (Q := (Q2 Z b jv stv spv env F j st sp en h0 n0)) hG (by decide) (by decide) ?_
              show (Q2 Z b jv stv spv env F j st sp en h0 n0) _ s₁.heap _
              rw [e0]
              exact ⟨by simp [own_at, q1, q2, q3, q4, q5, q6], N0, rfl⟩
            · refine Ends.go (fun _ => XS.icmpYes X0.here hx rfl (pc0 := 66) (pc' := 75) rfl (hb hby d2_66) rfl (feq (q6 : ¬ ((F (j + 1)) = (10 : Int32)))).2 (by decide) (by decide)) ?_
              show Ends p.tables e below G (s₁.setTop (mkF m 75 #[rv b, iv jv, iv stv, iv spv, iv env, iv ((0 : Int32) + (1 : Int32))] []))
              refine Ends.go (fun _ => XS.iload X0.here hx rfl (hb hby d2_75) rfl) ?_
              show Ends p.tables e below G (s₁.setTop (mkF m 77 #[rv b, iv jv, iv stv, iv spv, iv env, iv ((0 : Int32) + (1 : Int32))] [(.int ((0 : Int32) + (1 : Int32)))]))
              refine own_finI X0 hx Bd.returns Bd.notSynchronized (hb hby d2_77) (Q := (Q2 Z b jv stv spv env F j st sp en h0 n0)) hG (by decide) (by decide) ?_
              show (Q2 Z b jv stv spv env F j st sp en h0 n0) _ s₁.heap _
              rw [e0]
              exact ⟨by simp [own_at, q1, q2, q3, q4, q5, q6], N0, rfl⟩
          · refine Ends.go (fun _ => XS.icmpYes X0.here hx rfl (pc0 := 48) (pc' := 75) rfl (hb hby d2_48) rfl (flt (fun z => q5 ((own_lt (own_add hj (b := 1) rfl (by omega)) hen).mp z) : ¬ ((jv + (1 : Int32)) < env))).2.1 (by decide) (by decide)) ?_
            show Ends p.tables e below G (s₁.setTop (mkF m 75 #[rv b, iv jv, iv stv, iv spv, iv env, iv ((0 : Int32) + (1 : Int32))] []))
            refine Ends.go (fun _ => XS.iload X0.here hx rfl (hb hby d2_75) rfl) ?_
            show Ends p.tables e below G (s₁.setTop (mkF m 77 #[rv b, iv jv, iv stv, iv spv, iv env, iv ((0 : Int32) + (1 : Int32))] [(.int ((0 : Int32) + (1 : Int32)))]))
            refine own_finI X0 hx Bd.returns Bd.notSynchronized (hb hby d2_77) (Q := (Q2 Z b jv stv spv env F j st sp en h0 n0)) hG (by decide) (by decide) ?_
            show (Q2 Z b jv stv spv env F j st sp en h0 n0) _ s₁.heap _
            rw [e0]
            exact ⟨by simp [own_at, q1, q2, q3, q4, q5], N0, rfl⟩
        · refine Ends.go (fun _ => XS.icmpYes X0.here hx rfl (pc0 := 34) (pc' := 43) rfl (hb hby d2_34) rfl (feq (q4 : ¬ ((F j) = (13 : Int32)))).2 (by decide) (by decide)) ?_
          show Ends p.tables e below G (s₁.setTop (mkF m 43 #[rv b, iv jv, iv stv, iv spv, iv env, iv (0 : Int32)] []))
          refine Ends.go (fun _ => XS.iloadN X0.here hx rfl (hb hby d2_43) rfl) ?_
          show Ends p.tables e below G (s₁.setTop (mkF m 44 #[rv b, iv jv, iv stv, iv spv, iv env, iv (0 : Int32)] [(.int jv)]))
          refine Ends.go (fun _ => XS.iconst X0.here hx rfl (hb hby d2_44)) ?_
          show Ends p.tables e below G (s₁.setTop (mkF m 45 #[rv b, iv jv, iv stv, iv spv, iv env, iv (0 : Int32)] [(.int (1 : Int32)), (.int jv)]))
          refine Ends.go (fun _ => XS.iadd X0.here hx rfl (hb hby d2_45) rfl) ?_
          show Ends p.tables e below G (s₁.setTop (mkF m 46 #[rv b, iv jv, iv stv, iv spv, iv env, iv (0 : Int32)] [(.int (jv + (1 : Int32)))]))
          refine Ends.go (fun _ => XS.iload X0.here hx rfl (hb hby d2_46) rfl) ?_
          show Ends p.tables e below G (s₁.setTop (mkF m 48 #[rv b, iv jv, iv stv, iv spv, iv env, iv (0 : Int32)] [(.int env), (.int (jv + (1 : Int32)))]))
          by_cases q5 : j + 1 < en
          · refine Ends.go (fun _ => XS.icmpNo X0.here hx rfl (hb hby d2_48) rfl (tlt ((own_lt (own_add hj (b := 1) rfl (by omega)) hen).mpr q5 : (jv + (1 : Int32)) < env)).2.1) ?_
            show Ends p.tables e below G (s₁.setTop (mkF m 51 #[rv b, iv jv, iv stv, iv spv, iv env, iv (0 : Int32)] []))
            refine Ends.go (fun _ => XS.aloadN X0.here hx rfl (hb hby d2_51) rfl rfl) ?_
            show Ends p.tables e below G (s₁.setTop (mkF m 52 #[rv b, iv jv, iv stv, iv spv, iv env, iv (0 : Int32)] [(.ref b)]))
            refine Ends.go (fun _ => XS.iloadN X0.here hx rfl (hb hby d2_52) rfl) ?_
            show Ends p.tables e below G (s₁.setTop (mkF m 53 #[rv b, iv jv, iv stv, iv spv, iv env, iv (0 : Int32)] [(.int jv), (.ref b)]))
            refine Ends.go (fun _ => AF.ldB V_b X0 hx hZ e0 (j := jv) (i := j) hj hj5 (v := (.int (F j))) rfl (g := (mkF m 53 #[rv b, iv jv, iv stv, iv spv, iv env, iv (0 : Int32)] [(.int jv), (.ref b)])) rfl rfl (hb hby d2_53) _) ?_
            show Ends p.tables e below G (s₁.setTop (mkF m 54 #[rv b, iv jv, iv stv, iv spv, iv env, iv (0 : Int32)] [(.int (F j))]))
            refine Ends.go (fun _ => XS.bipush X0.here hx rfl (hb hby d2_54)) ?_
            show Ends p.tables e below G (s₁.setTop (mkF m 56 #[rv b, iv jv, iv stv, iv spv, iv env, iv (0 : Int32)] [(.int (13 : Int32)), (.int (F j))]))
            refine Ends.go (fun _ => XS.icmpYes X0.here hx rfl (pc0 := 56) (pc' := 75) rfl (hb hby d2_56) rfl (feq (q4 : ¬ ((F j) = (13 : Int32)))).2 (by decide) (by decide)) ?_
            show Ends p.tables e below G (s₁.setTop (mkF m 75 #[rv b, iv jv, iv stv, iv spv, iv env, iv (0 : Int32)] []))
            refine Ends.go (fun _ => XS.iload X0.here hx rfl (hb hby d2_75) rfl) ?_
            show Ends p.tables e below G (s₁.setTop (mkF m 77 #[rv b, iv jv, iv stv, iv spv, iv env, iv (0 : Int32)] [(.int (0 : Int32))]))
            refine own_finI X0 hx Bd.returns Bd.notSynchronized (hb hby d2_77) (Q := (Q2 Z b jv stv spv env F j st sp en h0 n0)) hG (by decide) (by decide) ?_
            show (Q2 Z b jv stv spv env F j st sp en h0 n0) _ s₁.heap _
            rw [e0]
            exact ⟨by simp [own_at, q1, q2, q3, q4, q5], N0, rfl⟩
          · refine Ends.go (fun _ => XS.icmpYes X0.here hx rfl (pc0 := 48) (pc' := 75) rfl (hb hby d2_48) rfl (flt (fun z => q5 ((own_lt (own_add hj (b := 1) rfl (by omega)) hen).mp z) : ¬ ((jv + (1 : Int32)) < env))).2.1 (by decide) (by decide)) ?_
            show Ends p.tables e below G (s₁.setTop (mkF m 75 #[rv b, iv jv, iv stv, iv spv, iv env, iv (0 : Int32)] []))
            refine Ends.go (fun _ => XS.iload X0.here hx rfl (hb hby d2_75) rfl) ?_
            show Ends p.tables e below G (s₁.setTop (mkF m 77 #[rv b, iv jv, iv stv, iv spv, iv env, iv (0 : Int32)] [(.int (0 : Int32))]))
            refine own_finI X0 hx Bd.returns Bd.notSynchronized (hb hby d2_77) (Q := (Q2 Z b jv stv spv env F j st sp en h0 n0)) hG (by decide) (by decide) ?_
            show (Q2 Z b jv stv spv env F j st sp en h0 n0) _ s₁.heap _
            rw [e0]
            exact ⟨by simp [own_at, q1, q2, q3, q4, q5], N0, rfl⟩
    · refine Ends.go (fun _ => XS.icmpNo X0.here hx rfl (hb hby d2_7) rfl (flt (fun z => q2 ((own_lt hj hsp).mp z) : ¬ (jv < spv))).1) ?_
      show Ends p.tables e below G (s₁.setTop (mkF m 10 #[rv b, iv jv, iv stv, iv spv, iv env, un] []))
      refine Ends.go (fun _ => XS.iconst X0.here hx rfl (hb hby d2_10)) ?_
      show Ends p.tables e below G (s₁.setTop (mkF m 11 #[rv b, iv jv, iv stv, iv spv, iv env, un] [(.int (0 : Int32))]))
      refine own_finI X0 hx Bd.returns Bd.notSynchronized (hb hby d2_11) (Q := (Q2 Z b jv stv spv env F j st sp en h0 n0)) hG (by decide) (by decide) ?_
      show (Q2 Z b jv stv spv env F j st sp en h0 n0) _ s₁.heap _
      rw [e0]
      exact ⟨by simp [own_at, q1, q2], N0, rfl⟩
theorem d3_0 : decode prog_125_method_26_code 0 = .ok (.iconst 0, 1) := by decide +kernel
theorem d3_1 : decode prog_125_method_26_code 1 = .ok (.istore 4, 2) := by decide +kernel
theorem d3_3 : decode prog_125_method_26_code 3 = .ok (.iload_n 1, 1) := by decide +kernel
theorem d3_4 : decode prog_125_method_26_code 4 = .ok (.istore 5, 2) := by decide +kernel
theorem d3_6 : decode prog_125_method_26_code 6 = .ok (.iload 5, 2) := by decide +kernel
theorem d3_8 : decode prog_125_method_26_code 8 = .ok (.iload_n 2, 1) := by decide +kernel
theorem d3_9 : decode prog_125_method_26_code 9 = .ok (.if_icmp .ge 51, 3) := by decide +kernel
theorem d3_12 : decode prog_125_method_26_code 12 = .ok (.aload_n 0, 1) := by decide +kernel
theorem d3_13 : decode prog_125_method_26_code 13 = .ok (.iload 5, 2) := by decide +kernel
theorem d3_15 : decode prog_125_method_26_code 15 = .ok (.baload, 1) := by decide +kernel
theorem d3_16 : decode prog_125_method_26_code 16 = .ok (.istore 6, 2) := by decide +kernel
theorem d3_18 : decode prog_125_method_26_code 18 = .ok (.iload 6, 2) := by decide +kernel
theorem d3_20 : decode prog_125_method_26_code 20 = .ok (.bipush 10, 2) := by decide +kernel
theorem d3_22 : decode prog_125_method_26_code 22 = .ok (.if_icmp .eq 29, 3) := by decide +kernel
theorem d3_25 : decode prog_125_method_26_code 25 = .ok (.iload 6, 2) := by decide +kernel
theorem d3_27 : decode prog_125_method_26_code 27 = .ok (.bipush 13, 2) := by decide +kernel
theorem d3_29 : decode prog_125_method_26_code 29 = .ok (.if_icmp .ne 25, 3) := by decide +kernel
theorem d3_32 : decode prog_125_method_26_code 32 = .ok (.iload 5, 2) := by decide +kernel
theorem d3_34 : decode prog_125_method_26_code 34 = .ok (.iconst 1, 1) := by decide +kernel
theorem d3_35 : decode prog_125_method_26_code 35 = .ok (.iadd, 1) := by decide +kernel
theorem d3_36 : decode prog_125_method_26_code 36 = .ok (.iload_n 3, 1) := by decide +kernel
theorem d3_37 : decode prog_125_method_26_code 37 = .ok (.if_icmp .eq 14, 3) := by decide +kernel
theorem d3_40 : decode prog_125_method_26_code 40 = .ok (.aload_n 0, 1) := by decide +kernel
theorem d3_41 : decode prog_125_method_26_code 41 = .ok (.iload 5, 2) := by decide +kernel
theorem d3_43 : decode prog_125_method_26_code 43 = .ok (.iconst 1, 1) := by decide +kernel
theorem d3_44 : decode prog_125_method_26_code 44 = .ok (.iadd, 1) := by decide +kernel
theorem d3_45 : decode prog_125_method_26_code 45 = .ok (.baload, 1) := by decide +kernel
theorem d3_46 : decode prog_125_method_26_code 46 = .ok (.bipush 10, 2) := by decide +kernel
theorem d3_48 : decode prog_125_method_26_code 48 = .ok (.if_icmp .eq 6, 3) := by decide +kernel
theorem d3_51 : decode prog_125_method_26_code 51 = .ok (.iinc 4 1, 3) := by decide +kernel
theorem d3_54 : decode prog_125_method_26_code 54 = .ok (.iinc 5 1, 3) := by decide +kernel
theorem d3_57 : decode prog_125_method_26_code 57 = .ok (.goto (-51), 3) := by decide +kernel
theorem d3_60 : decode prog_125_method_26_code 60 = .ok (.iload 4, 2) := by decide +kernel
theorem d3_62 : decode prog_125_method_26_code 62 = .ok (.ireturn, 1) := by decide +kernel
theorem pn_3 : plainName "com/example/belge/belge/XmlScanner" = true := by first | (simp [plainName, overriddenIn]; done) | decide +kernel
theorem ef_3 (m : MethodId) (x0 : Addr) (x1 : Int32) (x2 : Int32) (x3 : Int32) : entryFrame m #[(.ref x0), (.int x1), (.int x2), (.int x3)] 7 = mkF m 0 #[rv x0, iv x1, iv x2, iv x3, un, un, un] [] := by first | (simp [entryFrame, mkF, argsToLocals, Value.category]; done) | rfl
def Q3 (Z : State) (b : Addr) (stv : Int32) (spv : Int32) (env : Int32) (F : Nat → Int32) (st : Nat) (sp : Nat) (en : Nat) (h0 : Heap) (n0 : Nat) (v : Option Value) (h : Heap) (L : List Loc) : Prop := v = some (.int (own_acc F en 0 st (sp - st))) ∧ Fr n0 L ∧ h = h0
set_option maxRecDepth 65536 in
set_option maxHeartbeats 40000000 in
theorem rm3 (l : Launch) (Z : State) (a0 : Array Value) (hw : ∀ d ∈ tables_1, d.before a0 Z = true) (ws : List Jvm.Cond) (b : Addr) (stv : Int32) (spv : Int32) (env : Int32) (F : Nat → Int32) (st : Nat) (sp : Nat) (en : Nat) (h0 : Heap) (n0 : Nat) (Z0 : n0 ≤ h0.size) (V_b : AF Z h0 b .byte 5 (fun k => .int (F k))) (hst : stv.toInt = (st : Int)) (hsp : spv.toInt = (sp : Int)) (hen : env.toInt = (en : Int)) (h1 : st ≤ sp) (h2 : sp ≤ en) (h3 : en ≤ 5) :
    MetFree l (⟨"com/example/belge/belge/XmlScanner", "lineBreaks", "([BIII)I"⟩ : MethodName) (head1 (Jvm.Cond.code (⟨"com/example/belge/belge/XmlScanner", "lineBreaks", "([BIII)I"⟩ : MethodName) prog_125_method_26_code 7 (some .int) :: ws) ({ frames := 0, cells := 0, slots := 0, locals := 0 } : Room)) (fun a U => a = #[(.ref b), (.int stv), (.int spv), (.int env)] ∧ Z.Warmed39 U.vm ∧ U.heap = h0) (fun _ _ _ _ _ => True) (fun _ U o U' => ∃ v L, o = .returned v ∧ Q3 Z b stv spv env F st sp en h0 n0 v U'.heap L ∧ FrameEnd U o U' L ({ frames := 0, cells := 0, slots := 0, locals := 0 } : Room).cells ({ frames := 0, cells := 0, slots := 0, locals := 0 } : Room).slots) := by
  refine MetFree.of_bodySF (plainFor_of_name pn_3) hisR ?_
  intro p e s m args below meth c s₁ Bd hml0 hP hK
  obtain ⟨rfl, hZ, hh⟩ := hP
  have hx := Bd.exec
  have hby := Bd.bytes
  have hml : c.maxLocals = 7 := hml0
  have hown : s.vm.findClass "com/example/belge/belge/XmlScanner" = some m.cls := findClass_of_methodNamed Bd.named
  have hnm := (name_of_methodNamed Bd.named Bd.method).1
  have X0 : Stand p l e ({ frames := 0, cells := 0, slots := 0, locals := 0 } : Room) s m #[(.ref b), (.int stv), (.int spv), (.int env)] below meth c s₁ [] 0 0 := Stand.of_body Bd
  have e0 : s₁.heap = h0 := by rw [← hh, Bd.state]; rfl
  have N0 := Fr.nil n0
  show Ends p.tables e below (fun (s₂ : State) (o : Outcome) => ∃ v L, o = .returned v ∧ (Q3 Z b stv spv env F st sp en h0 n0) v s₂.heap L ∧ FrameEnd s o s₂ L ({ frames := 0, cells := 0, slots := 0, locals := 0 } : Room).cells ({ frames := 0, cells := 0, slots := 0, locals := 0 } : Room).slots) (s₁.setTop (entryFrame m #[(.ref b), (.int stv), (.int spv), (.int env)] 7))
  refine Ends.any fun G hG => ?_
  refine Ends.go (fun t k => castTop (ef_3 m b stv spv env) k) ?_
  show Ends p.tables e below G (s₁.setTop (mkF m 0 #[rv b, iv stv, iv spv, iv env, un, un, un] []))
  refine Ends.go (fun _ => XS.iconst X0.here hx rfl (hb hby d3_0)) ?_
  show Ends p.tables e below G (s₁.setTop (mkF m 1 #[rv b, iv stv, iv spv, iv env, un, un, un] [(.int (0 : Int32))]))
  refine Ends.go (fun _ => XS.istore X0.here hx rfl (hb hby d3_1) rfl (l' := #[rv b, iv stv, iv spv, iv env, iv (0 : Int32), un, un]) rfl) ?_
  show Ends p.tables e below G (s₁.setTop (mkF m 3 #[rv b, iv stv, iv spv, iv env, iv (0 : Int32), un, un] []))
  refine Ends.go (fun _ => XS.iloadN X0.here hx rfl (hb hby d3_3) rfl) ?_
  show Ends p.tables e below G (s₁.setTop (mkF m 4 #[rv b, iv stv, iv spv, iv env, iv (0 : Int32), un, un] [(.int stv)]))
  refine Ends.go (fun _ => XS.istore X0.here hx rfl (hb hby d3_4) rfl (l' := #[rv b, iv stv, iv spv, iv env, iv (0 : Int32), iv stv, un]) rfl) ?_
  show Ends p.tables e below G (s₁.setTop (mkF m 6 #[rv b, iv stv, iv spv, iv env, iv (0 : Int32), iv stv, un] []))
  have loop : ∀ (k i : Nat) (jw B : Int32) (s6 : Slot), jw.toInt = (i : Int) → i + k = sp → One s6 → own_acc F en B i k = own_acc F en 0 st (sp - st) → Ends p.tables e below G (s₁.setTop (mkF m 6 #[rv b, iv stv, iv spv, iv env, iv B, iv jw, s6] [])) := by
    intro k
    induction k with
    | zero =>
      intro i jw B s6 hi hk h6 hB
      refine Ends.go (fun _ => XS.iload X0.here hx rfl (hb hby d3_6) rfl) ?_
      show Ends p.tables e below G (s₁.setTop (mkF m 8 #[rv b, iv stv, iv spv, iv env, iv B, iv jw, s6] [(.int jw)]))
      refine Ends.go (fun _ => XS.iloadN X0.here hx rfl (hb hby d3_8) rfl) ?_
      show Ends p.tables e below G (s₁.setTop (mkF m 9 #[rv b, iv stv, iv spv, iv env, iv B, iv jw, s6] [(.int spv), (.int jw)]))
      refine Ends.go (fun _ => XS.icmpYes X0.here hx rfl (pc0 := 9) (pc' := 60) rfl (hb hby d3_9) rfl (flt (fun z => absurd ((own_lt hi hsp).mp z) (by omega) : ¬ (jw < spv))).2.1 (by decide) (by decide)) ?_
      show Ends p.tables e below G (s₁.setTop (mkF m 60 #[rv b, iv stv, iv spv, iv env, iv B, iv jw, s6] []))
      refine Ends.go (fun _ => XS.iload X0.here hx rfl (hb hby d3_60) rfl) ?_
      show Ends p.tables e below G (s₁.setTop (mkF m 62 #[rv b, iv stv, iv spv, iv env, iv B, iv jw, s6] [(.int B)]))
      refine own_finI X0 hx Bd.returns Bd.notSynchronized (hb hby d3_62) (Q := (Q3 Z b stv spv env F st sp en h0 n0)) hG (by decide) (by decide) ?_
      show (Q3 Z b stv spv env F st sp en h0 n0) _ s₁.heap _
      rw [e0]
      exact ⟨by rw [← hB]; rfl, N0, rfl⟩
    | succ k ih =>
      intro i jw B s6 hi hk h6 hB
      have hi1 := own_add hi (b := 1) (y := 1) rfl (by omega)
      refine Ends.go (fun _ => XS.iload X0.here hx rfl (hb hby d3_6) rfl) ?_
      show Ends p.tables e below G (s₁.setTop (mkF m 8 #[rv b, iv stv, iv spv, iv env, iv B, iv jw, s6] [(.int jw)]))
      refine Ends.go (fun _ => XS.iloadN X0.here hx rfl (hb hby d3_8) rfl) ?_
      show Ends p.tables e below G (s₁.setTop (mkF m 9 #[rv b, iv stv, iv spv, iv env, iv B, iv jw, s6] [(.int spv), (.int jw)]))
      refine Ends.go (fun _ => XS.icmpNo X0.here hx rfl (hb hby d3_9) rfl (tlt ((own_lt hi hsp).mpr (by omega) : jw < spv)).2.1) ?_
      show Ends p.tables e below G (s₁.setTop (mkF m 12 #[rv b, iv stv, iv spv, iv env, iv B, iv jw, s6] []))
      refine Ends.go (fun _ => XS.aloadN X0.here hx rfl (hb hby d3_12) rfl rfl) ?_
      show Ends p.tables e below G (s₁.setTop (mkF m 13 #[rv b, iv stv, iv spv, iv env, iv B, iv jw, s6] [(.ref b)]))
      refine Ends.go (fun _ => XS.iload X0.here hx rfl (hb hby d3_13) rfl) ?_
      show Ends p.tables e below G (s₁.setTop (mkF m 15 #[rv b, iv stv, iv spv, iv env, iv B, iv jw, s6] [(.int jw), (.ref b)]))
      refine Ends.go (fun _ => AF.ldB V_b X0 hx hZ e0 (j := jw) (i := i) hi (by omega) (v := (.int (F i))) rfl (g := (mkF m 15 #[rv b, iv stv, iv spv, iv env, iv B, iv jw, s6] [(.int jw), (.ref b)])) rfl rfl (hb hby d3_15) _) ?_
      show Ends p.tables e below G (s₁.setTop (mkF m 16 #[rv b, iv stv, iv spv, iv env, iv B, iv jw, s6] [(.int (F i))]))
      refine Ends.go (fun _ => XS.istore X0.here hx rfl (hb hby d3_16) rfl (l' := #[rv b, iv stv, iv spv, iv env, iv B, iv jw, iv (F i)]) (XS.store1 rfl h6 rfl)) ?_
      show Ends p.tables e below G (s₁.setTop (mkF m 18 #[rv b, iv stv, iv spv, iv env, iv B, iv jw, iv (F i)] []))
      refine Ends.go (fun _ => XS.iload X0.here hx rfl (hb hby d3_18) rfl) ?_
      show Ends p.tables e below G (s₁.setTop (mkF m 20 #[rv b, iv stv, iv spv, iv env, iv B, iv jw, iv (F i)] [(.int (F i))]))
      refine Ends.go (fun _ => XS.bipush X0.here hx rfl (hb hby d3_20)) ?_
      show Ends p.tables e below G (s₁.setTop (mkF m 22 #[rv b, iv stv, iv spv, iv env, iv B, iv jw, iv (F i)] [(.int (10 : Int32)), (.int (F i))]))
      by_cases q1 : F i = 10
      · refine Ends.go (fun _ => XS.icmpYes X0.here hx rfl (pc0 := 22) (pc' := 51) rfl (hb hby d3_22) rfl (teq (q1 : (F i) = (10 : Int32))).1 (by decide) (by decide)) ?_
        show Ends p.tables e below G (s₁.setTop (mkF m 51 #[rv b, iv stv, iv spv, iv env, iv B, iv jw, iv (F i)] []))
        refine Ends.go (fun _ => XS.iinc X0.here hx rfl (hb hby d3_51) rfl (l' := #[rv b, iv stv, iv spv, iv env, iv (B + (1 : Int32)), iv jw, iv (F i)]) rfl) ?_
        show Ends p.tables e below G (s₁.setTop (mkF m 54 #[rv b, iv stv, iv spv, iv env, iv (B + (1 : Int32)), iv jw, iv (F i)] []))
        refine Ends.go (fun _ => XS.iinc X0.here hx rfl (hb hby d3_54) rfl (l' := #[rv b, iv stv, iv spv, iv env, iv (B + (1 : Int32)), iv (jw + (1 : Int32)), iv (F i)]) rfl) ?_
        show Ends p.tables e below G (s₁.setTop (mkF m 57 #[rv b, iv stv, iv spv, iv env, iv (B + (1 : Int32)), iv (jw + (1 : Int32)), iv (F i)] []))
        refine Ends.go (fun _ => XS.goto X0.here hx rfl (pc0 := 57) (pc' := 6) rfl (hb hby d3_57) (by decide) (by decide)) ?_
        show Ends p.tables e below G (s₁.setTop (mkF m 6 #[rv b, iv stv, iv spv, iv env, iv (B + (1 : Int32)), iv (jw + (1 : Int32)), iv (F i)] []))
        exact ih (i + 1) _ _ _ hi1 (by omega) (One.val rfl) (by rw [← hB]; simp [own_acc, own_cnt, q1])
      · refine Ends.go (fun _ => XS.icmpNo X0.here hx rfl (hb hby d3_22) rfl (feq (q1 : ¬ ((F i) = (10 : Int32)))).1) ?_
        show Ends p.tables e below G (s₁.setTop (mkF m 25 #[rv b, iv stv, iv spv, iv env, iv B, iv jw, iv (F i)] []))
        refine Ends.go (fun _ => XS.iload X0.here hx rfl (hb hby d3_25) rfl) ?_
        show Ends p.tables e below G (s₁.setTop (mkF m 27 #[rv b, iv stv, iv spv, iv env, iv B, iv jw, iv (F i)] [(.int (F i))]))
        refine Ends.go (fun _ => XS.bipush X0.here hx rfl (hb hby d3_27)) ?_
        show Ends p.tables e below G (s₁.setTop (mkF m 29 #[rv b, iv stv, iv spv, iv env, iv B, iv jw, iv (F i)] [(.int (13 : Int32)), (.int (F i))]))
        by_cases q2 : F i = 13
        · refine Ends.go (fun _ => XS.icmpNo X0.here hx rfl (hb hby d3_29) rfl (teq (q2 : (F i) = (13 : Int32))).2) ?_
          show Ends p.tables e below G (s₁.setTop (mkF m 32 #[rv b, iv stv, iv spv, iv env, iv B, iv jw, iv (F i)] []))
          refine Ends.go (fun _ => XS.iload X0.here hx rfl (hb hby d3_32) rfl) ?_
          show Ends p.tables e below G (s₁.setTop (mkF m 34 #[rv b, iv stv, iv spv, iv env, iv B, iv jw, iv (F i)] [(.int jw)]))
          refine Ends.go (fun _ => XS.iconst X0.here hx rfl (hb hby d3_34)) ?_
          show Ends p.tables e below G (s₁.setTop (mkF m 35 #[rv b, iv stv, iv spv, iv env, iv B, iv jw, iv (F i)] [(.int (1 : Int32)), (.int jw)]))
          refine Ends.go (fun _ => XS.iadd X0.here hx rfl (hb hby d3_35) rfl) ?_
          show Ends p.tables e below G (s₁.setTop (mkF m 36 #[rv b, iv stv, iv spv, iv env, iv B, iv jw, iv (F i)] [(.int (jw + (1 : Int32)))]))
          refine Ends.go (fun _ => XS.iloadN X0.here hx rfl (hb hby d3_36) rfl) ?_
          show Ends p.tables e below G (s₁.setTop (mkF m 37 #[rv b, iv stv, iv spv, iv env, iv B, iv jw, iv (F i)] [(.int env), (.int (jw + (1 : Int32)))]))
          by_cases q3 : i + 1 = en
          · refine Ends.go (fun _ => XS.icmpYes X0.here hx rfl (pc0 := 37) (pc' := 51) rfl (hb hby d3_37) rfl (teq ((own_eqn hi1 hen).mpr q3 : (jw + (1 : Int32)) = env)).1 (by decide) (by decide)) ?_
            show Ends p.tables e below G (s₁.setTop (mkF m 51 #[rv b, iv stv, iv spv, iv env, iv B, iv jw, iv (F i)] []))
            refine Ends.go (fun _ => XS.iinc X0.here hx rfl (hb hby d3_51) rfl (l' := #[rv b, iv stv, iv spv, iv env, iv (B + (1 : Int32)), iv jw, iv (F i)]) rfl) ?_
            show Ends p.tables e below G (s₁.setTop (mkF m 54 #[rv b, iv stv, iv spv, iv env, iv (B + (1 : Int32)), iv jw, iv (F i)] []))
            refine Ends.go (fun _ => XS.iinc X0.here hx rfl (hb hby d3_54) rfl (l' := #[rv b, iv stv, iv spv, iv env, iv (B + (1 : Int32)), iv (jw + (1 : Int32)), iv (F i)]) rfl) ?_
            show Ends p.tables e below G (s₁.setTop (mkF m 57 #[rv b, iv stv, iv spv, iv env, iv (B + (1 : Int32)), iv (jw + (1 : Int32)), iv (F i)] []))
            refine Ends.go (fun _ => XS.goto X0.here hx rfl (pc0 := 57) (pc' := 6) rfl (hb hby d3_57) (by decide) (by decide)) ?_
            show Ends p.tables e below G (s₁.setTop (mkF m 6 #[rv b, iv stv, iv spv, iv env, iv (B + (1 : Int32)), iv (jw + (1 : Int32)), iv (F i)] []))
            exact ih (i + 1) _ _ _ hi1 (by omega) (One.val rfl) (by rw [← hB]; simp [own_acc, own_cnt, q1, q2, q3])
          · refine Ends.go (fun _ => XS.icmpNo X0.here hx rfl (hb hby d3_37) rfl (feq (fun z => q3 ((own_eqn hi1 hen).mp z) : ¬ ((jw + (1 : Int32)) = env))).1) ?_
            show Ends p.tables e below G (s₁.setTop (mkF m 40 #[rv b, iv stv, iv spv, iv env, iv B, iv jw, iv (F i)] []))
            refine Ends.go (fun _ => XS.aloadN X0.here hx rfl (hb hby d3_40) rfl rfl) ?_
            show Ends p.tables e below G (s₁.setTop (mkF m 41 #[rv b, iv stv, iv spv, iv env, iv B, iv jw, iv (F i)] [(.ref b)]))
            refine Ends.go (fun _ => XS.iload X0.here hx rfl (hb hby d3_41) rfl) ?_
            show Ends p.tables e below G (s₁.setTop (mkF m 43 #[rv b, iv stv, iv spv, iv env, iv B, iv jw, iv (F i)] [(.int jw), (.ref b)]))
            refine Ends.go (fun _ => XS.iconst X0.here hx rfl (hb hby d3_43)) ?_
            show Ends p.tables e below G (s₁.setTop (mkF m 44 #[rv b, iv stv, iv spv, iv env, iv B, iv jw, iv (F i)] [(.int (1 : Int32)), (.int jw), (.ref b)]))
            refine Ends.go (fun _ => XS.iadd X0.here hx rfl (hb hby d3_44) rfl) ?_
            show Ends p.tables e below G (s₁.setTop (mkF m 45 #[rv b, iv stv, iv spv, iv env, iv B, iv jw, iv (F i)] [(.int (jw + (1 : Int32))), (.ref b)]))
            refine Ends.go (fun _ => AF.ldB V_b X0 hx hZ e0 (j := (jw + (1 : Int32))) (i := (i + 1)) hi1 (by omega) (v := (.int (F (i + 1)))) rfl (g := (mkF m 45 #[rv b, iv stv, iv spv, iv env, iv B, iv jw, iv (F i)] [(.int (jw + (1 : Int32))), (.ref b)])) rfl rfl (hb hby d3_45) _) ?_
            show Ends p.tables e below G (s₁.setTop (mkF m 46 #[rv b, iv stv, iv spv, iv env, iv B, iv jw, iv (F i)] [(.int (F (i + 1)))]))
            refine Ends.go (fun _ => XS.bipush X0.here hx rfl (hb hby d3_46)) ?_
            show Ends p.tables e below G (s₁.setTop (mkF m 48 #[rv b, iv stv, iv spv, iv env, iv B, iv jw, iv (F i)] [(.int (10 : Int32)), (.int (F (i + 1)))]))
            by_cases q4 : F (i + 1) = 10
            · refine Ends.go (fun _ => XS.icmpYes X0.here hx rfl (pc0 := 48) (pc' := 54) rfl (hb hby d3_48) rfl (teq (q4 : (F (i + 1)) = (10 : Int32))).1 (by decide) (by decide)) ?_
              show Ends p.tables e below G (s₁.setTop (mkF m 54 #[rv b, iv stv, iv spv, iv env, iv B, iv jw, iv (F i)] []))
              refine Ends.go (fun _ => XS.iinc X0.here hx rfl (hb hby d3_54) rfl (l' := #[rv b, iv stv, iv spv, iv env, iv B, iv (jw + (1 : Int32)), iv (F i)]) rfl) ?_
              show Ends p.tables e below G (s₁.setTop (mkF m 57 #[rv b, iv stv, iv spv, iv env, iv B, iv (jw + (1 : Int32)), iv (F i)] []))
              refine Ends.go (fun _ => XS.goto X0.here hx rfl (pc0 := 57) (pc' := 6) rfl (hb hby d3_57) (by decide) (by decide)) ?_
              show Ends p.tables e below G (s₁.setTop (mkF m 6 #[rv b, iv stv, iv spv, iv env, iv B, iv (jw + (1 : Int32)), iv (F i)] []))
              exact ih (i + 1) _ _ _ hi1 (by omega) (One.val rfl) (by rw [← hB]; simp [own_acc, own_cnt, q1, q2, q3, q4])
            · refine Ends.go (fun _ => XS.icmpNo X0.here hx rfl (hb hby d3_48) rfl (feq (q4 : ¬ ((F (i + 1)) = (10 : Int32)))).1) ?_
              show Ends p.tables e below G (s₁.setTop (mkF m 51 #[rv b, iv stv, iv spv, iv env, iv B, iv jw, iv (F i)] []))
              refine Ends.go (fun _ => XS.iinc X0.here hx rfl (hb hby d3_51) rfl (l' := #[rv b, iv stv, iv spv, iv env, iv (B + (1 : Int32)), iv jw, iv (F i)]) rfl) ?_
              show Ends p.tables e below G (s₁.setTop (mkF m 54 #[rv b, iv stv, iv spv, iv env, iv (B + (1 : Int32)), iv jw, iv (F i)] []))
              refine Ends.go (fun _ => XS.iinc X0.here hx rfl (hb hby d3_54) rfl (l' := #[rv b, iv stv, iv spv, iv env, iv (B + (1 : Int32)), iv (jw + (1 : Int32)), iv (F i)]) rfl) ?_
              show Ends p.tables e below G (s₁.setTop (mkF m 57 #[rv b, iv stv, iv spv, iv env, iv (B + (1 : Int32)), iv (jw + (1 : Int32)), iv (F i)] []))
              refine Ends.go (fun _ => XS.goto X0.here hx rfl (pc0 := 57) (pc' := 6) rfl (hb hby d3_57) (by decide) (by decide)) ?_
              show Ends p.tables e below G (s₁.setTop (mkF m 6 #[rv b, iv stv, iv spv, iv env, iv (B + (1 : Int32)), iv (jw + (1 : Int32)), iv (F i)] []))
              exact ih (i + 1) _ _ _ hi1 (by omega) (One.val rfl) (by rw [← hB]; simp [own_acc, own_cnt, q1, q2, q3, q4])
        · refine Ends.go (fun _ => XS.icmpYes X0.here hx rfl (pc0 := 29) (pc' := 54) rfl (hb hby d3_29) rfl (feq (q2 : ¬ ((F i) = (13 : Int32)))).2 (by decide) (by decide)) ?_
          show Ends p.tables e below G (s₁.setTop (mkF m 54 #[rv b, iv stv, iv spv, iv env, iv B, iv jw, iv (F i)] []))
          refine Ends.go (fun _ => XS.iinc X0.here hx rfl (hb hby d3_54) rfl (l' := #[rv b, iv stv, iv spv, iv env, iv B, iv (jw + (1 : Int32)), iv (F i)]) rfl) ?_
          show Ends p.tables e below G (s₁.setTop (mkF m 57 #[rv b, iv stv, iv spv, iv env, iv B, iv (jw + (1 : Int32)), iv (F i)] []))
          refine Ends.go (fun _ => XS.goto X0.here hx rfl (pc0 := 57) (pc' := 6) rfl (hb hby d3_57) (by decide) (by decide)) ?_
          show Ends p.tables e below G (s₁.setTop (mkF m 6 #[rv b, iv stv, iv spv, iv env, iv B, iv (jw + (1 : Int32)), iv (F i)] []))
          exact ih (i + 1) _ _ _ hi1 (by omega) (One.val rfl) (by rw [← hB]; simp [own_acc, own_cnt, q1, q2])
  exact loop (sp - st) st _ _ _ hst (by omega) One.u rfl
theorem pd_0 : parseMethodDescriptor "(IB)B" = some ⟨[.int, .byte], some .byte⟩ := by decide +kernel
theorem pd_1 : parseMethodDescriptor "([BIIII)I" = some ⟨[(.array .byte), .int, .int, .int, .int], some .int⟩ := by decide +kernel
theorem pd_2 : parseMethodDescriptor "([BIII)I" = some ⟨[(.array .byte), .int, .int, .int], some .int⟩ := by decide +kernel
theorem pn_0 : plainName "com/example/belge/belge/XmlScannerLineBreaksPinLaw" = true := by first | (simp [plainName, overriddenIn]; done) | decide +kernel
theorem ef_0 (m : MethodId) (x0 : Int32) (x1 : Int32) (x2 : Int32) (x3 : Int32) (x4 : Int32) : entryFrame m #[(.int x0), (.int x1), (.int x2), (.int x3), (.int x4)] maxLocals = mkF m 0 #[iv x0, iv x1, iv x2, iv x3, iv x4, un, un, un, un, un] [] := by first | (simp [entryFrame, mkF, argsToLocals, Value.category, maxLocals]; done) | rfl
def Q0 (Z : State) (vk : Int32) (vf : Int32) (vs : Int32) (vt : Int32) (ve : Int32) (h0 : Heap) (n0 : Nat) (v : Option Value) (h : Heap) (L : List Loc) : Prop := v = some (.int 1) ∧ Fr n0 L
set_option maxRecDepth 65536 in
set_option maxHeartbeats 40000000 in
theorem rm0 (l : Launch) (Z : State) (a0 : Array Value) (hw : ∀ d ∈ tables_1, d.before a0 Z = true) (ws : List Jvm.Cond) (vk : Int32) (vf : Int32) (vs : Int32) (vt : Int32) (ve : Int32) (h0 : Heap) (n0 : Nat) (Z0 : n0 ≤ h0.size) :
    MetFree l x (head1 (Jvm.Cond.code x code maxLocals ret :: ws) room_1) (fun a U => a = #[(.int vk), (.int vf), (.int vs), (.int vt), (.int ve)] ∧ Z.Warmed39 U.vm ∧ U.heap = h0) (fun _ _ _ _ _ => True) (fun _ U o U' => ∃ v L, o = .returned v ∧ Q0 Z vk vf vs vt ve h0 n0 v U'.heap L ∧ FrameEnd U o U' L room_1.cells room_1.slots) := by
  refine MetFree.of_bodySF (plainFor_of_name pn_0) hisR ?_
  intro p e s m args below meth c s₁ Bd hml0 hP hK
  obtain ⟨rfl, hZ, hh⟩ := hP
  have hx := Bd.exec
  have hby := Bd.bytes
  have hml : c.maxLocals = 10 := hml0
  have hown : s.vm.findClass "com/example/belge/belge/XmlScannerLineBreaksPinLaw" = some m.cls := findClass_of_methodNamed Bd.named
  have hnm := (name_of_methodNamed Bd.named Bd.method).1
  have X0 : Stand p l e room_1 s m #[(.int vk), (.int vf), (.int vs), (.int vt), (.int ve)] below meth c s₁ [] 0 0 := Stand.of_body Bd
  have e0 : s₁.heap = h0 := by rw [← hh, Bd.state]; rfl
  have N0 := Fr.nil n0
  show Ends p.tables e below (fun (s₂ : State) (o : Outcome) => ∃ v L, o = .returned v ∧ (Q0 Z vk vf vs vt ve h0 n0) v s₂.heap L ∧ FrameEnd s o s₂ L room_1.cells room_1.slots) (s₁.setTop (entryFrame m #[(.int vk), (.int vf), (.int vs), (.int vt), (.int ve)] maxLocals))
  refine Ends.any fun G hG => ?_
  refine Ends.go (fun t k => castTop (ef_0 m vk vf vs vt ve) k) ?_
  show Ends p.tables e below G (s₁.setTop (mkF m 0 #[iv vk, iv vf, iv vs, iv vt, iv ve, un, un, un, un, un] []))
  refine Ends.go (fun _ => XS.iconst X0.here hx rfl (hb hby at_0)) ?_
  show Ends p.tables e below G (s₁.setTop (mkF m 1 #[iv vk, iv vf, iv vs, iv vt, iv ve, un, un, un, un, un] [(.int (5 : Int32))]))
  obtain ⟨T1, h1, k1, X1, e1, E1, A1, st1⟩ := newP X0 hx hZ (hw _ (List.mem_of_getElem? (i := 0) rfl)) e0 (g := (mkF m 1 #[iv vk, iv vf, iv vs, iv vt, iv ve, un, un, un, un, un] [(.int (5 : Int32))])) rfl (hb hby at_1) rfl (by decide) (cap := 5) (by decide) (by decide) (by decide) (by decide)
  obtain ⟨b1, g1⟩ : ∃ z, z = h0.size := ⟨_, rfl⟩
  rw [← g1] at A1 st1
  have g_b1 : n0 ≤ b1 := Nat.le_trans Z0 (Nat.le_of_eq g1.symm)
  have sz1 := Nat.le_trans Z0 E1.1
  have V1 : AF Z h1 b1 .byte 5 (fun _ => (.int (0 : Int32))) := AF.new A1 rfl
  refine Ends.go (fun _ => st1 _) ?_
  show Ends p.tables e below G (T1.setTop (mkF m 3 #[iv vk, iv vf, iv vs, iv vt, iv ve, un, un, un, un, un] [(.ref b1)]))
  refine Ends.go (fun _ => XS.astore X1.here hx rfl (hb hby at_3) rfl rfl (l' := #[iv vk, iv vf, iv vs, iv vt, iv ve, rv b1, un, un, un, un]) rfl) ?_
  show Ends p.tables e below G (T1.setTop (mkF m 5 #[iv vk, iv vf, iv vs, iv vt, iv ve, rv b1, un, un, un, un] []))
  refine Ends.go (fun _ => XS.aload X1.here hx rfl (hb hby at_5) rfl rfl) ?_
  show Ends p.tables e below G (T1.setTop (mkF m 7 #[iv vk, iv vf, iv vs, iv vt, iv ve, rv b1, un, un, un, un] [(.ref b1)]))
  refine Ends.go (fun _ => XS.iconst X1.here hx rfl (hb hby at_7)) ?_
  show Ends p.tables e below G (T1.setTop (mkF m 8 #[iv vk, iv vf, iv vs, iv vt, iv ve, rv b1, un, un, un, un] [(.int (0 : Int32)), (.ref b1)]))
  refine Ends.go (fun _ => XS.iloadN X1.here hx rfl (hb hby at_8) rfl) ?_
  show Ends p.tables e below G (T1.setTop (mkF m 9 #[iv vk, iv vf, iv vs, iv vt, iv ve, rv b1, un, un, un, un] [(.int vk), (.int (0 : Int32)), (.ref b1)]))
  refine Ends.go (fun _ => XS.iconst X1.here hx rfl (hb hby at_9)) ?_
  show Ends p.tables e below G (T1.setTop (mkF m 10 #[iv vk, iv vf, iv vs, iv vt, iv ve, rv b1, un, un, un, un] [(.int (3 : Int32)), (.int vk), (.int (0 : Int32)), (.ref b1)]))
  refine Ends.go (fun _ => XS.iand X1.here hx rfl (hb hby at_10) rfl) ?_
  show Ends p.tables e below G (T1.setTop (mkF m 11 #[iv vk, iv vf, iv vs, iv vt, iv ve, rv b1, un, un, un, un] [(.int (vk &&& (3 : Int32))), (.int (0 : Int32)), (.ref b1)]))
  refine Ends.go (fun _ => XS.iloadN X1.here hx rfl (hb hby at_11) rfl) ?_
  show Ends p.tables e below G (T1.setTop (mkF m 12 #[iv vk, iv vf, iv vs, iv vt, iv ve, rv b1, un, un, un, un] [(.int vf), (.int (vk &&& (3 : Int32))), (.int (0 : Int32)), (.ref b1)]))
  refine Ends.go (fun _ => XS.i2b X1.here hx rfl (hb hby at_12) rfl) ?_
  show Ends p.tables e below G (T1.setTop (mkF m 13 #[iv vk, iv vf, iv vs, iv vt, iv ve, rv b1, un, un, un, un] [(.int (vf.toInt8.toInt32)), (.int (vk &&& (3 : Int32))), (.int (0 : Int32)), (.ref b1)]))
  obtain ⟨_, _, ⟨T2, L2, k2, n2⟩, -, X2, ⟨Lc2, hQ2, l2, y2, z2⟩, st2⟩ := Jvm.LawKit.callS X1 hx (y := (⟨"com/example/belge/belge/XmlScannerLineBreaksPinLaw", "pick", "(IB)B"⟩ : MethodName)) hown (mvT hZ (hw _ (List.mem_of_getElem? (i := 1) rfl))) (mvT hZ (hw _ (List.mem_of_getElem? (i := 2) rfl))) (mvT hZ (hw _ (List.mem_of_getElem? (i := 3) rfl))) (mvT hZ (hw _ (List.mem_of_getElem? (i := 4) rfl))) (by decide) (backOf (W := 2) (rm1 l Z a0 hw [] (vk &&& (3 : Int32)) (vf.toInt8.toInt32) h1 n0 sz1) hZ (hw _ (List.mem_of_getElem? (i := 4) rfl)) (hw _ (List.mem_of_getElem? (i := 3) rfl)) (by decide) (by decide)) (g := (mkF m 13 #[iv vk, iv vf, iv vs, iv vt, iv ve, rv b1, un, un, un, un] [(.int (vf.toInt8.toInt32)), (.int (vk &&& (3 : Int32))), (.int (0 : Int32)), (.ref b1)])) rfl (by rw [hml]; rfl) (argsL := [(.int (vk &&& (3 : Int32))), (.int (vf.toInt8.toInt32))]) (rest := [(.int (0 : Int32)), (.ref b1)]) (lenOf pd_0 rfl) rfl (by show 2 * 0 + _ ≤ _; exact Nat.le_of_eq rfl) (hb hby at_13) (fun _ _ => ⟨rfl, e1, (by decide : (0 + 1) + 0 ≤ _), (by decide : (0 + 5) + 0 ≤ _)⟩)
  dsimp only [Pt.U, Pt.locs, Pt.cells, Pt.slots] at X2 l2 y2 z2 st2 hQ2
  subst l2 y2 z2
  obtain ⟨r2, rfl, N2q, e2⟩ := hQ2
  have N2 := Fr.app N0 N2q
  refine Ends.go (fun _ => st2 _) ?_
  show Ends p.tables e below G (T2.setTop (mkF m 16 #[iv vk, iv vf, iv vs, iv vt, iv ve, rv b1, un, un, un, un] [(.int r2), (.int (0 : Int32)), (.ref b1)]))
  obtain ⟨T3, h3, X3, e3, W3, V3, st3⟩ := AF.stB V1 X2 hx hZ e2 (j := (0 : Int32)) (i := 0) (by decide) (by decide) (g := (mkF m 16 #[iv vk, iv vf, iv vs, iv vt, iv ve, rv b1, un, un, un, un] [(.int r2), (.int (0 : Int32)), (.ref b1)])) rfl rfl (hb hby at_16)
  have sz3 := Nat.le_trans sz1 (Nat.le_of_eq W3.size.symm)
  have N3 := Fr.snoc X3 N2 g_b1
  refine Ends.go (fun _ => st3 _) ?_
  show Ends p.tables e below G (T3.setTop (mkF m 17 #[iv vk, iv vf, iv vs, iv vt, iv ve, rv b1, un, un, un, un] []))
  refine Ends.go (fun _ => XS.aload X3.here hx rfl (hb hby at_17) rfl rfl) ?_
  show Ends p.tables e below G (T3.setTop (mkF m 19 #[iv vk, iv vf, iv vs, iv vt, iv ve, rv b1, un, un, un, un] [(.ref b1)]))
  refine Ends.go (fun _ => XS.iconst X3.here hx rfl (hb hby at_19)) ?_
  show Ends p.tables e below G (T3.setTop (mkF m 20 #[iv vk, iv vf, iv vs, iv vt, iv ve, rv b1, un, un, un, un] [(.int (1 : Int32)), (.ref b1)]))
  refine Ends.go (fun _ => XS.iloadN X3.here hx rfl (hb hby at_20) rfl) ?_
  show Ends p.tables e below G (T3.setTop (mkF m 21 #[iv vk, iv vf, iv vs, iv vt, iv ve, rv b1, un, un, un, un] [(.int vk), (.int (1 : Int32)), (.ref b1)]))
  refine Ends.go (fun _ => XS.iconst X3.here hx rfl (hb hby at_21)) ?_
  show Ends p.tables e below G (T3.setTop (mkF m 22 #[iv vk, iv vf, iv vs, iv vt, iv ve, rv b1, un, un, un, un] [(.int (2 : Int32)), (.int vk), (.int (1 : Int32)), (.ref b1)]))
  refine Ends.go (fun _ => XS.ishr X3.here hx rfl (hb hby at_22) rfl) ?_
  show Ends p.tables e below G (T3.setTop (mkF m 23 #[iv vk, iv vf, iv vs, iv vt, iv ve, rv b1, un, un, un, un] [(.int (vk >>> ((2 : Int32) &&& 31))), (.int (1 : Int32)), (.ref b1)]))
  refine Ends.go (fun _ => XS.iconst X3.here hx rfl (hb hby at_23)) ?_
  show Ends p.tables e below G (T3.setTop (mkF m 24 #[iv vk, iv vf, iv vs, iv vt, iv ve, rv b1, un, un, un, un] [(.int (3 : Int32)), (.int (vk >>> ((2 : Int32) &&& 31))), (.int (1 : Int32)), (.ref b1)]))
  refine Ends.go (fun _ => XS.iand X3.here hx rfl (hb hby at_24) rfl) ?_
  show Ends p.tables e below G (T3.setTop (mkF m 25 #[iv vk, iv vf, iv vs, iv vt, iv ve, rv b1, un, un, un, un] [(.int ((vk >>> ((2 : Int32) &&& 31)) &&& (3 : Int32))), (.int (1 : Int32)), (.ref b1)]))
  refine Ends.go (fun _ => XS.iloadN X3.here hx rfl (hb hby at_25) rfl) ?_
  show Ends p.tables e below G (T3.setTop (mkF m 26 #[iv vk, iv vf, iv vs, iv vt, iv ve, rv b1, un, un, un, un] [(.int vf), (.int ((vk >>> ((2 : Int32) &&& 31)) &&& (3 : Int32))), (.int (1 : Int32)), (.ref b1)]))
  refine Ends.go (fun _ => XS.bipush X3.here hx rfl (hb hby at_26)) ?_
  show Ends p.tables e below G (T3.setTop (mkF m 28 #[iv vk, iv vf, iv vs, iv vt, iv ve, rv b1, un, un, un, un] [(.int (8 : Int32)), (.int vf), (.int ((vk >>> ((2 : Int32) &&& 31)) &&& (3 : Int32))), (.int (1 : Int32)), (.ref b1)]))
  refine Ends.go (fun _ => XS.ishr X3.here hx rfl (hb hby at_28) rfl) ?_
  show Ends p.tables e below G (T3.setTop (mkF m 29 #[iv vk, iv vf, iv vs, iv vt, iv ve, rv b1, un, un, un, un] [(.int (vf >>> ((8 : Int32) &&& 31))), (.int ((vk >>> ((2 : Int32) &&& 31)) &&& (3 : Int32))), (.int (1 : Int32)), (.ref b1)]))
  refine Ends.go (fun _ => XS.i2b X3.here hx rfl (hb hby at_29) rfl) ?_
  show Ends p.tables e below G (T3.setTop (mkF m 30 #[iv vk, iv vf, iv vs, iv vt, iv ve, rv b1, un, un, un, un] [(.int ((vf >>> ((8 : Int32) &&& 31)).toInt8.toInt32)), (.int ((vk >>> ((2 : Int32) &&& 31)) &&& (3 : Int32))), (.int (1 : Int32)), (.ref b1)]))
  obtain ⟨_, _, ⟨T4, L4, k4, n4⟩, -, X4, ⟨Lc4, hQ4, l4, y4, z4⟩, st4⟩ := Jvm.LawKit.callS X3 hx (y := (⟨"com/example/belge/belge/XmlScannerLineBreaksPinLaw", "pick", "(IB)B"⟩ : MethodName)) hown (mvT hZ (hw _ (List.mem_of_getElem? (i := 1) rfl))) (mvT hZ (hw _ (List.mem_of_getElem? (i := 2) rfl))) (mvT hZ (hw _ (List.mem_of_getElem? (i := 3) rfl))) (mvT hZ (hw _ (List.mem_of_getElem? (i := 4) rfl))) (by decide) (backOf (W := 2) (rm1 l Z a0 hw [] ((vk >>> ((2 : Int32) &&& 31)) &&& (3 : Int32)) ((vf >>> ((8 : Int32) &&& 31)).toInt8.toInt32) h3 n0 sz3) hZ (hw _ (List.mem_of_getElem? (i := 4) rfl)) (hw _ (List.mem_of_getElem? (i := 3) rfl)) (by decide) (by decide)) (g := (mkF m 30 #[iv vk, iv vf, iv vs, iv vt, iv ve, rv b1, un, un, un, un] [(.int ((vf >>> ((8 : Int32) &&& 31)).toInt8.toInt32)), (.int ((vk >>> ((2 : Int32) &&& 31)) &&& (3 : Int32))), (.int (1 : Int32)), (.ref b1)])) rfl (by rw [hml]; rfl) (argsL := [(.int ((vk >>> ((2 : Int32) &&& 31)) &&& (3 : Int32))), (.int ((vf >>> ((8 : Int32) &&& 31)).toInt8.toInt32))]) (rest := [(.int (1 : Int32)), (.ref b1)]) (lenOf pd_0 rfl) rfl (by show 2 * 0 + _ ≤ _; exact Nat.le_of_eq rfl) (hb hby at_30) (fun _ _ => ⟨rfl, e3, (by decide : ((0 + 1) + 0) + 0 ≤ _), (by decide : ((0 + 5) + 0) + 0 ≤ _)⟩)
  dsimp only [Pt.U, Pt.locs, Pt.cells, Pt.slots] at X4 l4 y4 z4 st4 hQ4
  subst l4 y4 z4
  obtain ⟨r4, rfl, N4q, e4⟩ := hQ4
  have N4 := Fr.app N3 N4q
  refine Ends.go (fun _ => st4 _) ?_
  show Ends p.tables e below G (T4.setTop (mkF m 33 #[iv vk, iv vf, iv vs, iv vt, iv ve, rv b1, un, un, un, un] [(.int r4), (.int (1 : Int32)), (.ref b1)]))
  obtain ⟨T5, h5, X5, e5, W5, V5, st5⟩ := AF.stB V3 X4 hx hZ e4 (j := (1 : Int32)) (i := 1) (by decide) (by decide) (g := (mkF m 33 #[iv vk, iv vf, iv vs, iv vt, iv ve, rv b1, un, un, un, un] [(.int r4), (.int (1 : Int32)), (.ref b1)])) rfl rfl (hb hby at_33)
  have sz5 := Nat.le_trans sz3 (Nat.le_of_eq W5.size.symm)
  have N5 := Fr.snoc X5 N4 g_b1
  refine Ends.go (fun _ => st5 _) ?_
  show Ends p.tables e below G (T5.setTop (mkF m 34 #[iv vk, iv vf, iv vs, iv vt, iv ve, rv b1, un, un, un, un] []))
  refine Ends.go (fun _ => XS.aload X5.here hx rfl (hb hby at_34) rfl rfl) ?_
  show Ends p.tables e below G (T5.setTop (mkF m 36 #[iv vk, iv vf, iv vs, iv vt, iv ve, rv b1, un, un, un, un] [(.ref b1)]))
  refine Ends.go (fun _ => XS.iconst X5.here hx rfl (hb hby at_36)) ?_
  show Ends p.tables e below G (T5.setTop (mkF m 37 #[iv vk, iv vf, iv vs, iv vt, iv ve, rv b1, un, un, un, un] [(.int (2 : Int32)), (.ref b1)]))
  refine Ends.go (fun _ => XS.iloadN X5.here hx rfl (hb hby at_37) rfl) ?_
  show Ends p.tables e below G (T5.setTop (mkF m 38 #[iv vk, iv vf, iv vs, iv vt, iv ve, rv b1, un, un, un, un] [(.int vk), (.int (2 : Int32)), (.ref b1)]))
  refine Ends.go (fun _ => XS.iconst X5.here hx rfl (hb hby at_38)) ?_
  show Ends p.tables e below G (T5.setTop (mkF m 39 #[iv vk, iv vf, iv vs, iv vt, iv ve, rv b1, un, un, un, un] [(.int (4 : Int32)), (.int vk), (.int (2 : Int32)), (.ref b1)]))
  refine Ends.go (fun _ => XS.ishr X5.here hx rfl (hb hby at_39) rfl) ?_
  show Ends p.tables e below G (T5.setTop (mkF m 40 #[iv vk, iv vf, iv vs, iv vt, iv ve, rv b1, un, un, un, un] [(.int (vk >>> ((4 : Int32) &&& 31))), (.int (2 : Int32)), (.ref b1)]))
  refine Ends.go (fun _ => XS.iconst X5.here hx rfl (hb hby at_40)) ?_
  show Ends p.tables e below G (T5.setTop (mkF m 41 #[iv vk, iv vf, iv vs, iv vt, iv ve, rv b1, un, un, un, un] [(.int (3 : Int32)), (.int (vk >>> ((4 : Int32) &&& 31))), (.int (2 : Int32)), (.ref b1)]))
  refine Ends.go (fun _ => XS.iand X5.here hx rfl (hb hby at_41) rfl) ?_
  show Ends p.tables e below G (T5.setTop (mkF m 42 #[iv vk, iv vf, iv vs, iv vt, iv ve, rv b1, un, un, un, un] [(.int ((vk >>> ((4 : Int32) &&& 31)) &&& (3 : Int32))), (.int (2 : Int32)), (.ref b1)]))
  refine Ends.go (fun _ => XS.iloadN X5.here hx rfl (hb hby at_42) rfl) ?_
  show Ends p.tables e below G (T5.setTop (mkF m 43 #[iv vk, iv vf, iv vs, iv vt, iv ve, rv b1, un, un, un, un] [(.int vf), (.int ((vk >>> ((4 : Int32) &&& 31)) &&& (3 : Int32))), (.int (2 : Int32)), (.ref b1)]))
  refine Ends.go (fun _ => XS.bipush X5.here hx rfl (hb hby at_43)) ?_
  show Ends p.tables e below G (T5.setTop (mkF m 45 #[iv vk, iv vf, iv vs, iv vt, iv ve, rv b1, un, un, un, un] [(.int (16 : Int32)), (.int vf), (.int ((vk >>> ((4 : Int32) &&& 31)) &&& (3 : Int32))), (.int (2 : Int32)), (.ref b1)]))
  refine Ends.go (fun _ => XS.ishr X5.here hx rfl (hb hby at_45) rfl) ?_
  show Ends p.tables e below G (T5.setTop (mkF m 46 #[iv vk, iv vf, iv vs, iv vt, iv ve, rv b1, un, un, un, un] [(.int (vf >>> ((16 : Int32) &&& 31))), (.int ((vk >>> ((4 : Int32) &&& 31)) &&& (3 : Int32))), (.int (2 : Int32)), (.ref b1)]))
  refine Ends.go (fun _ => XS.i2b X5.here hx rfl (hb hby at_46) rfl) ?_
  show Ends p.tables e below G (T5.setTop (mkF m 47 #[iv vk, iv vf, iv vs, iv vt, iv ve, rv b1, un, un, un, un] [(.int ((vf >>> ((16 : Int32) &&& 31)).toInt8.toInt32)), (.int ((vk >>> ((4 : Int32) &&& 31)) &&& (3 : Int32))), (.int (2 : Int32)), (.ref b1)]))
  obtain ⟨_, _, ⟨T6, L6, k6, n6⟩, -, X6, ⟨Lc6, hQ6, l6, y6, z6⟩, st6⟩ := Jvm.LawKit.callS X5 hx (y := (⟨"com/example/belge/belge/XmlScannerLineBreaksPinLaw", "pick", "(IB)B"⟩ : MethodName)) hown (mvT hZ (hw _ (List.mem_of_getElem? (i := 1) rfl))) (mvT hZ (hw _ (List.mem_of_getElem? (i := 2) rfl))) (mvT hZ (hw _ (List.mem_of_getElem? (i := 3) rfl))) (mvT hZ (hw _ (List.mem_of_getElem? (i := 4) rfl))) (by decide) (backOf (W := 2) (rm1 l Z a0 hw [] ((vk >>> ((4 : Int32) &&& 31)) &&& (3 : Int32)) ((vf >>> ((16 : Int32) &&& 31)).toInt8.toInt32) h5 n0 sz5) hZ (hw _ (List.mem_of_getElem? (i := 4) rfl)) (hw _ (List.mem_of_getElem? (i := 3) rfl)) (by decide) (by decide)) (g := (mkF m 47 #[iv vk, iv vf, iv vs, iv vt, iv ve, rv b1, un, un, un, un] [(.int ((vf >>> ((16 : Int32) &&& 31)).toInt8.toInt32)), (.int ((vk >>> ((4 : Int32) &&& 31)) &&& (3 : Int32))), (.int (2 : Int32)), (.ref b1)])) rfl (by rw [hml]; rfl) (argsL := [(.int ((vk >>> ((4 : Int32) &&& 31)) &&& (3 : Int32))), (.int ((vf >>> ((16 : Int32) &&& 31)).toInt8.toInt32))]) (rest := [(.int (2 : Int32)), (.ref b1)]) (lenOf pd_0 rfl) rfl (by show 2 * 0 + _ ≤ _; exact Nat.le_of_eq rfl) (hb hby at_47) (fun _ _ => ⟨rfl, e5, (by decide : (((0 + 1) + 0) + 0) + 0 ≤ _), (by decide : (((0 + 5) + 0) + 0) + 0 ≤ _)⟩)
  dsimp only [Pt.U, Pt.locs, Pt.cells, Pt.slots] at X6 l6 y6 z6 st6 hQ6
  subst l6 y6 z6
  obtain ⟨r6, rfl, N6q, e6⟩ := hQ6
  have N6 := Fr.app N5 N6q
  refine Ends.go (fun _ => st6 _) ?_
  show Ends p.tables e below G (T6.setTop (mkF m 50 #[iv vk, iv vf, iv vs, iv vt, iv ve, rv b1, un, un, un, un] [(.int r6), (.int (2 : Int32)), (.ref b1)]))
  obtain ⟨T7, h7, X7, e7, W7, V7, st7⟩ := AF.stB V5 X6 hx hZ e6 (j := (2 : Int32)) (i := 2) (by decide) (by decide) (g := (mkF m 50 #[iv vk, iv vf, iv vs, iv vt, iv ve, rv b1, un, un, un, un] [(.int r6), (.int (2 : Int32)), (.ref b1)])) rfl rfl (hb hby at_50)
  have sz7 := Nat.le_trans sz5 (Nat.le_of_eq W7.size.symm)
  have N7 := Fr.snoc X7 N6 g_b1
  refine Ends.go (fun _ => st7 _) ?_
  show Ends p.tables e below G (T7.setTop (mkF m 51 #[iv vk, iv vf, iv vs, iv vt, iv ve, rv b1, un, un, un, un] []))
  refine Ends.go (fun _ => XS.aload X7.here hx rfl (hb hby at_51) rfl rfl) ?_
  show Ends p.tables e below G (T7.setTop (mkF m 53 #[iv vk, iv vf, iv vs, iv vt, iv ve, rv b1, un, un, un, un] [(.ref b1)]))
  refine Ends.go (fun _ => XS.iconst X7.here hx rfl (hb hby at_53)) ?_
  show Ends p.tables e below G (T7.setTop (mkF m 54 #[iv vk, iv vf, iv vs, iv vt, iv ve, rv b1, un, un, un, un] [(.int (3 : Int32)), (.ref b1)]))
  refine Ends.go (fun _ => XS.iloadN X7.here hx rfl (hb hby at_54) rfl) ?_
  show Ends p.tables e below G (T7.setTop (mkF m 55 #[iv vk, iv vf, iv vs, iv vt, iv ve, rv b1, un, un, un, un] [(.int vk), (.int (3 : Int32)), (.ref b1)]))
  refine Ends.go (fun _ => XS.bipush X7.here hx rfl (hb hby at_55)) ?_
  show Ends p.tables e below G (T7.setTop (mkF m 57 #[iv vk, iv vf, iv vs, iv vt, iv ve, rv b1, un, un, un, un] [(.int (6 : Int32)), (.int vk), (.int (3 : Int32)), (.ref b1)]))
  refine Ends.go (fun _ => XS.ishr X7.here hx rfl (hb hby at_57) rfl) ?_
  show Ends p.tables e below G (T7.setTop (mkF m 58 #[iv vk, iv vf, iv vs, iv vt, iv ve, rv b1, un, un, un, un] [(.int (vk >>> ((6 : Int32) &&& 31))), (.int (3 : Int32)), (.ref b1)]))
  refine Ends.go (fun _ => XS.iconst X7.here hx rfl (hb hby at_58)) ?_
  show Ends p.tables e below G (T7.setTop (mkF m 59 #[iv vk, iv vf, iv vs, iv vt, iv ve, rv b1, un, un, un, un] [(.int (3 : Int32)), (.int (vk >>> ((6 : Int32) &&& 31))), (.int (3 : Int32)), (.ref b1)]))
  refine Ends.go (fun _ => XS.iand X7.here hx rfl (hb hby at_59) rfl) ?_
  show Ends p.tables e below G (T7.setTop (mkF m 60 #[iv vk, iv vf, iv vs, iv vt, iv ve, rv b1, un, un, un, un] [(.int ((vk >>> ((6 : Int32) &&& 31)) &&& (3 : Int32))), (.int (3 : Int32)), (.ref b1)]))
  refine Ends.go (fun _ => XS.iloadN X7.here hx rfl (hb hby at_60) rfl) ?_
  show Ends p.tables e below G (T7.setTop (mkF m 61 #[iv vk, iv vf, iv vs, iv vt, iv ve, rv b1, un, un, un, un] [(.int vf), (.int ((vk >>> ((6 : Int32) &&& 31)) &&& (3 : Int32))), (.int (3 : Int32)), (.ref b1)]))
  refine Ends.go (fun _ => XS.bipush X7.here hx rfl (hb hby at_61)) ?_
  show Ends p.tables e below G (T7.setTop (mkF m 63 #[iv vk, iv vf, iv vs, iv vt, iv ve, rv b1, un, un, un, un] [(.int (24 : Int32)), (.int vf), (.int ((vk >>> ((6 : Int32) &&& 31)) &&& (3 : Int32))), (.int (3 : Int32)), (.ref b1)]))
  refine Ends.go (fun _ => XS.ishr X7.here hx rfl (hb hby at_63) rfl) ?_
  show Ends p.tables e below G (T7.setTop (mkF m 64 #[iv vk, iv vf, iv vs, iv vt, iv ve, rv b1, un, un, un, un] [(.int (vf >>> ((24 : Int32) &&& 31))), (.int ((vk >>> ((6 : Int32) &&& 31)) &&& (3 : Int32))), (.int (3 : Int32)), (.ref b1)]))
  refine Ends.go (fun _ => XS.i2b X7.here hx rfl (hb hby at_64) rfl) ?_
  show Ends p.tables e below G (T7.setTop (mkF m 65 #[iv vk, iv vf, iv vs, iv vt, iv ve, rv b1, un, un, un, un] [(.int ((vf >>> ((24 : Int32) &&& 31)).toInt8.toInt32)), (.int ((vk >>> ((6 : Int32) &&& 31)) &&& (3 : Int32))), (.int (3 : Int32)), (.ref b1)]))
  obtain ⟨_, _, ⟨T8, L8, k8, n8⟩, -, X8, ⟨Lc8, hQ8, l8, y8, z8⟩, st8⟩ := Jvm.LawKit.callS X7 hx (y := (⟨"com/example/belge/belge/XmlScannerLineBreaksPinLaw", "pick", "(IB)B"⟩ : MethodName)) hown (mvT hZ (hw _ (List.mem_of_getElem? (i := 1) rfl))) (mvT hZ (hw _ (List.mem_of_getElem? (i := 2) rfl))) (mvT hZ (hw _ (List.mem_of_getElem? (i := 3) rfl))) (mvT hZ (hw _ (List.mem_of_getElem? (i := 4) rfl))) (by decide) (backOf (W := 2) (rm1 l Z a0 hw [] ((vk >>> ((6 : Int32) &&& 31)) &&& (3 : Int32)) ((vf >>> ((24 : Int32) &&& 31)).toInt8.toInt32) h7 n0 sz7) hZ (hw _ (List.mem_of_getElem? (i := 4) rfl)) (hw _ (List.mem_of_getElem? (i := 3) rfl)) (by decide) (by decide)) (g := (mkF m 65 #[iv vk, iv vf, iv vs, iv vt, iv ve, rv b1, un, un, un, un] [(.int ((vf >>> ((24 : Int32) &&& 31)).toInt8.toInt32)), (.int ((vk >>> ((6 : Int32) &&& 31)) &&& (3 : Int32))), (.int (3 : Int32)), (.ref b1)])) rfl (by rw [hml]; rfl) (argsL := [(.int ((vk >>> ((6 : Int32) &&& 31)) &&& (3 : Int32))), (.int ((vf >>> ((24 : Int32) &&& 31)).toInt8.toInt32))]) (rest := [(.int (3 : Int32)), (.ref b1)]) (lenOf pd_0 rfl) rfl (by show 2 * 0 + _ ≤ _; exact Nat.le_of_eq rfl) (hb hby at_65) (fun _ _ => ⟨rfl, e7, (by decide : ((((0 + 1) + 0) + 0) + 0) + 0 ≤ _), (by decide : ((((0 + 5) + 0) + 0) + 0) + 0 ≤ _)⟩)
  dsimp only [Pt.U, Pt.locs, Pt.cells, Pt.slots] at X8 l8 y8 z8 st8 hQ8
  subst l8 y8 z8
  obtain ⟨r8, rfl, N8q, e8⟩ := hQ8
  have N8 := Fr.app N7 N8q
  refine Ends.go (fun _ => st8 _) ?_
  show Ends p.tables e below G (T8.setTop (mkF m 68 #[iv vk, iv vf, iv vs, iv vt, iv ve, rv b1, un, un, un, un] [(.int r8), (.int (3 : Int32)), (.ref b1)]))
  obtain ⟨T9, h9, X9, e9, W9, V9, st9⟩ := AF.stB V7 X8 hx hZ e8 (j := (3 : Int32)) (i := 3) (by decide) (by decide) (g := (mkF m 68 #[iv vk, iv vf, iv vs, iv vt, iv ve, rv b1, un, un, un, un] [(.int r8), (.int (3 : Int32)), (.ref b1)])) rfl rfl (hb hby at_68)
  have sz9 := Nat.le_trans sz7 (Nat.le_of_eq W9.size.symm)
  have N9 := Fr.snoc X9 N8 g_b1
  refine Ends.go (fun _ => st9 _) ?_
  show Ends p.tables e below G (T9.setTop (mkF m 69 #[iv vk, iv vf, iv vs, iv vt, iv ve, rv b1, un, un, un, un] []))
  refine Ends.go (fun _ => XS.aload X9.here hx rfl (hb hby at_69) rfl rfl) ?_
  show Ends p.tables e below G (T9.setTop (mkF m 71 #[iv vk, iv vf, iv vs, iv vt, iv ve, rv b1, un, un, un, un] [(.ref b1)]))
  refine Ends.go (fun _ => XS.iconst X9.here hx rfl (hb hby at_71)) ?_
  show Ends p.tables e below G (T9.setTop (mkF m 72 #[iv vk, iv vf, iv vs, iv vt, iv ve, rv b1, un, un, un, un] [(.int (4 : Int32)), (.ref b1)]))
  refine Ends.go (fun _ => XS.iloadN X9.here hx rfl (hb hby at_72) rfl) ?_
  show Ends p.tables e below G (T9.setTop (mkF m 73 #[iv vk, iv vf, iv vs, iv vt, iv ve, rv b1, un, un, un, un] [(.int vk), (.int (4 : Int32)), (.ref b1)]))
  refine Ends.go (fun _ => XS.bipush X9.here hx rfl (hb hby at_73)) ?_
  show Ends p.tables e below G (T9.setTop (mkF m 75 #[iv vk, iv vf, iv vs, iv vt, iv ve, rv b1, un, un, un, un] [(.int (8 : Int32)), (.int vk), (.int (4 : Int32)), (.ref b1)]))
  refine Ends.go (fun _ => XS.ishr X9.here hx rfl (hb hby at_75) rfl) ?_
  show Ends p.tables e below G (T9.setTop (mkF m 76 #[iv vk, iv vf, iv vs, iv vt, iv ve, rv b1, un, un, un, un] [(.int (vk >>> ((8 : Int32) &&& 31))), (.int (4 : Int32)), (.ref b1)]))
  refine Ends.go (fun _ => XS.iconst X9.here hx rfl (hb hby at_76)) ?_
  show Ends p.tables e below G (T9.setTop (mkF m 77 #[iv vk, iv vf, iv vs, iv vt, iv ve, rv b1, un, un, un, un] [(.int (3 : Int32)), (.int (vk >>> ((8 : Int32) &&& 31))), (.int (4 : Int32)), (.ref b1)]))
  refine Ends.go (fun _ => XS.iand X9.here hx rfl (hb hby at_77) rfl) ?_
  show Ends p.tables e below G (T9.setTop (mkF m 78 #[iv vk, iv vf, iv vs, iv vt, iv ve, rv b1, un, un, un, un] [(.int ((vk >>> ((8 : Int32) &&& 31)) &&& (3 : Int32))), (.int (4 : Int32)), (.ref b1)]))
  refine Ends.go (fun _ => XS.iloadN X9.here hx rfl (hb hby at_78) rfl) ?_
  show Ends p.tables e below G (T9.setTop (mkF m 79 #[iv vk, iv vf, iv vs, iv vt, iv ve, rv b1, un, un, un, un] [(.int vk), (.int ((vk >>> ((8 : Int32) &&& 31)) &&& (3 : Int32))), (.int (4 : Int32)), (.ref b1)]))
  refine Ends.go (fun _ => XS.bipush X9.here hx rfl (hb hby at_79)) ?_
  show Ends p.tables e below G (T9.setTop (mkF m 81 #[iv vk, iv vf, iv vs, iv vt, iv ve, rv b1, un, un, un, un] [(.int (16 : Int32)), (.int vk), (.int ((vk >>> ((8 : Int32) &&& 31)) &&& (3 : Int32))), (.int (4 : Int32)), (.ref b1)]))
  refine Ends.go (fun _ => XS.ishr X9.here hx rfl (hb hby at_81) rfl) ?_
  show Ends p.tables e below G (T9.setTop (mkF m 82 #[iv vk, iv vf, iv vs, iv vt, iv ve, rv b1, un, un, un, un] [(.int (vk >>> ((16 : Int32) &&& 31))), (.int ((vk >>> ((8 : Int32) &&& 31)) &&& (3 : Int32))), (.int (4 : Int32)), (.ref b1)]))
  refine Ends.go (fun _ => XS.i2b X9.here hx rfl (hb hby at_82) rfl) ?_
  show Ends p.tables e below G (T9.setTop (mkF m 83 #[iv vk, iv vf, iv vs, iv vt, iv ve, rv b1, un, un, un, un] [(.int ((vk >>> ((16 : Int32) &&& 31)).toInt8.toInt32)), (.int ((vk >>> ((8 : Int32) &&& 31)) &&& (3 : Int32))), (.int (4 : Int32)), (.ref b1)]))
  obtain ⟨_, _, ⟨T10, L10, k10, n10⟩, -, X10, ⟨Lc10, hQ10, l10, y10, z10⟩, st10⟩ := Jvm.LawKit.callS X9 hx (y := (⟨"com/example/belge/belge/XmlScannerLineBreaksPinLaw", "pick", "(IB)B"⟩ : MethodName)) hown (mvT hZ (hw _ (List.mem_of_getElem? (i := 1) rfl))) (mvT hZ (hw _ (List.mem_of_getElem? (i := 2) rfl))) (mvT hZ (hw _ (List.mem_of_getElem? (i := 3) rfl))) (mvT hZ (hw _ (List.mem_of_getElem? (i := 4) rfl))) (by decide) (backOf (W := 2) (rm1 l Z a0 hw [] ((vk >>> ((8 : Int32) &&& 31)) &&& (3 : Int32)) ((vk >>> ((16 : Int32) &&& 31)).toInt8.toInt32) h9 n0 sz9) hZ (hw _ (List.mem_of_getElem? (i := 4) rfl)) (hw _ (List.mem_of_getElem? (i := 3) rfl)) (by decide) (by decide)) (g := (mkF m 83 #[iv vk, iv vf, iv vs, iv vt, iv ve, rv b1, un, un, un, un] [(.int ((vk >>> ((16 : Int32) &&& 31)).toInt8.toInt32)), (.int ((vk >>> ((8 : Int32) &&& 31)) &&& (3 : Int32))), (.int (4 : Int32)), (.ref b1)])) rfl (by rw [hml]; rfl) (argsL := [(.int ((vk >>> ((8 : Int32) &&& 31)) &&& (3 : Int32))), (.int ((vk >>> ((16 : Int32) &&& 31)).toInt8.toInt32))]) (rest := [(.int (4 : Int32)), (.ref b1)]) (lenOf pd_0 rfl) rfl (by show 2 * 0 + _ ≤ _; exact Nat.le_of_eq rfl) (hb hby at_83) (fun _ _ => ⟨rfl, e9, (by decide : (((((0 + 1) + 0) + 0) + 0) + 0) + 0 ≤ _), (by decide : (((((0 + 5) + 0) + 0) + 0) + 0) + 0 ≤ _)⟩)
  dsimp only [Pt.U, Pt.locs, Pt.cells, Pt.slots] at X10 l10 y10 z10 st10 hQ10
  subst l10 y10 z10
  obtain ⟨r10, rfl, N10q, e10⟩ := hQ10
  have N10 := Fr.app N9 N10q
  refine Ends.go (fun _ => st10 _) ?_
  show Ends p.tables e below G (T10.setTop (mkF m 86 #[iv vk, iv vf, iv vs, iv vt, iv ve, rv b1, un, un, un, un] [(.int r10), (.int (4 : Int32)), (.ref b1)]))
  obtain ⟨T11, h11, X11, e11, W11, V11, st11⟩ := AF.stB V9 X10 hx hZ e10 (j := (4 : Int32)) (i := 4) (by decide) (by decide) (g := (mkF m 86 #[iv vk, iv vf, iv vs, iv vt, iv ve, rv b1, un, un, un, un] [(.int r10), (.int (4 : Int32)), (.ref b1)])) rfl rfl (hb hby at_86)
  have sz11 := Nat.le_trans sz9 (Nat.le_of_eq W11.size.symm)
  have N11 := Fr.snoc X11 N10 g_b1
  refine Ends.go (fun _ => st11 _) ?_
  show Ends p.tables e below G (T11.setTop (mkF m 87 #[iv vk, iv vf, iv vs, iv vt, iv ve, rv b1, un, un, un, un] []))
  refine Ends.go (fun _ => XS.iload X11.here hx rfl (hb hby at_87) rfl) ?_
  show Ends p.tables e below G (T11.setTop (mkF m 89 #[iv vk, iv vf, iv vs, iv vt, iv ve, rv b1, un, un, un, un] [(.int ve)]))
  refine Ends.go (fun _ => X11.ldcInt hx hown (mvT hZ (hw _ (List.mem_of_getElem? (i := 5) rfl))) (g := (mkF m 89 #[iv vk, iv vf, iv vs, iv vt, iv ve, rv b1, un, un, un, un] [(.int ve)])) rfl (hb hby at_89) _) ?_
  show Ends p.tables e below G (T11.setTop (mkF m 91 #[iv vk, iv vf, iv vs, iv vt, iv ve, rv b1, un, un, un, un] [(.int (2147483647 : Int32)), (.int ve)]))
  refine Ends.go (fun _ => XS.iand X11.here hx rfl (hb hby at_91) rfl) ?_
  show Ends p.tables e below G (T11.setTop (mkF m 92 #[iv vk, iv vf, iv vs, iv vt, iv ve, rv b1, un, un, un, un] [(.int (ve &&& (2147483647 : Int32)))]))
  refine Ends.go (fun _ => XS.bipush X11.here hx rfl (hb hby at_92)) ?_
  show Ends p.tables e below G (T11.setTop (mkF m 94 #[iv vk, iv vf, iv vs, iv vt, iv ve, rv b1, un, un, un, un] [(.int (6 : Int32)), (.int (ve &&& (2147483647 : Int32)))]))
  obtain ⟨F, VF⟩ : ∃ F : Nat → Int32, AF Z h11 b1 .byte 5 (fun k => .int (F k)) := by
    refine ⟨fun k => if k = 4 then (nar .byte r10) else if k = 3 then (nar .byte r8) else if k = 2 then (nar .byte r6) else if k = 1 then (nar .byte r4) else if k = 0 then (nar .byte r2) else 0, AF.congr V11 (fun j hj => ?_)⟩
    match j, hj with
    | 0, _ => rfl
    | 1, _ => rfl
    | 2, _ => rfl
    | 3, _ => rfl
    | 4, _ => rfl
  refine Ends.go (fun _ => XS.irem X11.here hx rfl (hb hby at_94) rfl (by decide)) ?_
  show Ends p.tables e below G (T11.setTop (mkF m 95 #[iv vk, iv vf, iv vs, iv vt, iv ve, rv b1, un, un, un, un] [(.int ((ve &&& (2147483647 : Int32)) - ((ve &&& (2147483647 : Int32)) / (6 : Int32)) * (6 : Int32)))]))
  refine Ends.go (fun _ => XS.istore X11.here hx rfl (hb hby at_95) rfl (l' := #[iv vk, iv vf, iv vs, iv vt, iv ve, rv b1, iv ((ve &&& (2147483647 : Int32)) - ((ve &&& (2147483647 : Int32)) / (6 : Int32)) * (6 : Int32)), un, un, un]) rfl) ?_
  show Ends p.tables e below G (T11.setTop (mkF m 97 #[iv vk, iv vf, iv vs, iv vt, iv ve, rv b1, iv ((ve &&& (2147483647 : Int32)) - ((ve &&& (2147483647 : Int32)) / (6 : Int32)) * (6 : Int32)), un, un, un] []))
  obtain ⟨en, hen6, hen⟩ := own_irem (x := ve &&& 2147483647) (y := 6) (b := 6) (own_mask31 _) rfl (by decide)
  generalize ((ve &&& (2147483647 : Int32)) - ((ve &&& (2147483647 : Int32)) / (6 : Int32)) * (6 : Int32)) = env at hen ⊢
  show Ends p.tables e below G (T11.setTop (mkF m 97 #[iv vk, iv vf, iv vs, iv vt, iv ve, rv b1, iv env, un, un, un] []))
  have hen1 := own_add hen (b := 1) (y := 1) rfl (by omega)
  refine Ends.go (fun _ => XS.iloadN X11.here hx rfl (hb hby at_97) rfl) ?_
  show Ends p.tables e below G (T11.setTop (mkF m 98 #[iv vk, iv vf, iv vs, iv vt, iv ve, rv b1, iv env, un, un, un] [(.int vt)]))
  refine Ends.go (fun _ => X11.ldcInt hx hown (mvT hZ (hw _ (List.mem_of_getElem? (i := 5) rfl))) (g := (mkF m 98 #[iv vk, iv vf, iv vs, iv vt, iv ve, rv b1, iv env, un, un, un] [(.int vt)])) rfl (hb hby at_98) _) ?_
  show Ends p.tables e below G (T11.setTop (mkF m 100 #[iv vk, iv vf, iv vs, iv vt, iv ve, rv b1, iv env, un, un, un] [(.int (2147483647 : Int32)), (.int vt)]))
  refine Ends.go (fun _ => XS.iand X11.here hx rfl (hb hby at_100) rfl) ?_
  show Ends p.tables e below G (T11.setTop (mkF m 101 #[iv vk, iv vf, iv vs, iv vt, iv ve, rv b1, iv env, un, un, un] [(.int (vt &&& (2147483647 : Int32)))]))
  refine Ends.go (fun _ => XS.iload X11.here hx rfl (hb hby at_101) rfl) ?_
  show Ends p.tables e below G (T11.setTop (mkF m 103 #[iv vk, iv vf, iv vs, iv vt, iv ve, rv b1, iv env, un, un, un] [(.int env), (.int (vt &&& (2147483647 : Int32)))]))
  refine Ends.go (fun _ => XS.iconst X11.here hx rfl (hb hby at_103)) ?_
  show Ends p.tables e below G (T11.setTop (mkF m 104 #[iv vk, iv vf, iv vs, iv vt, iv ve, rv b1, iv env, un, un, un] [(.int (1 : Int32)), (.int env), (.int (vt &&& (2147483647 : Int32)))]))
  refine Ends.go (fun _ => XS.iadd X11.here hx rfl (hb hby at_104) rfl) ?_
  show Ends p.tables e below G (T11.setTop (mkF m 105 #[iv vk, iv vf, iv vs, iv vt, iv ve, rv b1, iv env, un, un, un] [(.int (env + (1 : Int32))), (.int (vt &&& (2147483647 : Int32)))]))
  refine Ends.go (fun _ => XS.irem X11.here hx rfl (hb hby at_105) rfl (own_ne0 hen1 (by omega))) ?_
  show Ends p.tables e below G (T11.setTop (mkF m 106 #[iv vk, iv vf, iv vs, iv vt, iv ve, rv b1, iv env, un, un, un] [(.int ((vt &&& (2147483647 : Int32)) - ((vt &&& (2147483647 : Int32)) / (env + (1 : Int32))) * (env + (1 : Int32))))]))
  refine Ends.go (fun _ => XS.istore X11.here hx rfl (hb hby at_106) rfl (l' := #[iv vk, iv vf, iv vs, iv vt, iv ve, rv b1, iv env, iv ((vt &&& (2147483647 : Int32)) - ((vt &&& (2147483647 : Int32)) / (env + (1 : Int32))) * (env + (1 : Int32))), un, un]) rfl) ?_
  show Ends p.tables e below G (T11.setTop (mkF m 108 #[iv vk, iv vf, iv vs, iv vt, iv ve, rv b1, iv env, iv ((vt &&& (2147483647 : Int32)) - ((vt &&& (2147483647 : Int32)) / (env + (1 : Int32))) * (env + (1 : Int32))), un, un] []))
  obtain ⟨sp, hsp6, hsp⟩ := own_irem (x := vt &&& 2147483647) (y := env + 1) (own_mask31 _) hen1 (by omega)
  generalize ((vt &&& (2147483647 : Int32)) - ((vt &&& (2147483647 : Int32)) / (env + (1 : Int32))) * (env + (1 : Int32))) = spv at hsp ⊢
  show Ends p.tables e below G (T11.setTop (mkF m 108 #[iv vk, iv vf, iv vs, iv vt, iv ve, rv b1, iv env, iv spv, un, un] []))
  have hsp1 := own_add hsp (b := 1) (y := 1) rfl (by omega)
  refine Ends.go (fun _ => XS.iloadN X11.here hx rfl (hb hby at_108) rfl) ?_
  show Ends p.tables e below G (T11.setTop (mkF m 109 #[iv vk, iv vf, iv vs, iv vt, iv ve, rv b1, iv env, iv spv, un, un] [(.int vs)]))
  refine Ends.go (fun _ => X11.ldcInt hx hown (mvT hZ (hw _ (List.mem_of_getElem? (i := 5) rfl))) (g := (mkF m 109 #[iv vk, iv vf, iv vs, iv vt, iv ve, rv b1, iv env, iv spv, un, un] [(.int vs)])) rfl (hb hby at_109) _) ?_
  show Ends p.tables e below G (T11.setTop (mkF m 111 #[iv vk, iv vf, iv vs, iv vt, iv ve, rv b1, iv env, iv spv, un, un] [(.int (2147483647 : Int32)), (.int vs)]))
  refine Ends.go (fun _ => XS.iand X11.here hx rfl (hb hby at_111) rfl) ?_
  show Ends p.tables e below G (T11.setTop (mkF m 112 #[iv vk, iv vf, iv vs, iv vt, iv ve, rv b1, iv env, iv spv, un, un] [(.int (vs &&& (2147483647 : Int32)))]))
  refine Ends.go (fun _ => XS.iload X11.here hx rfl (hb hby at_112) rfl) ?_
  show Ends p.tables e below G (T11.setTop (mkF m 114 #[iv vk, iv vf, iv vs, iv vt, iv ve, rv b1, iv env, iv spv, un, un] [(.int spv), (.int (vs &&& (2147483647 : Int32)))]))
  refine Ends.go (fun _ => XS.iconst X11.here hx rfl (hb hby at_114)) ?_
  show Ends p.tables e below G (T11.setTop (mkF m 115 #[iv vk, iv vf, iv vs, iv vt, iv ve, rv b1, iv env, iv spv, un, un] [(.int (1 : Int32)), (.int spv), (.int (vs &&& (2147483647 : Int32)))]))
  refine Ends.go (fun _ => XS.iadd X11.here hx rfl (hb hby at_115) rfl) ?_
  show Ends p.tables e below G (T11.setTop (mkF m 116 #[iv vk, iv vf, iv vs, iv vt, iv ve, rv b1, iv env, iv spv, un, un] [(.int (spv + (1 : Int32))), (.int (vs &&& (2147483647 : Int32)))]))
  refine Ends.go (fun _ => XS.irem X11.here hx rfl (hb hby at_116) rfl (own_ne0 hsp1 (by omega))) ?_
  show Ends p.tables e below G (T11.setTop (mkF m 117 #[iv vk, iv vf, iv vs, iv vt, iv ve, rv b1, iv env, iv spv, un, un] [(.int ((vs &&& (2147483647 : Int32)) - ((vs &&& (2147483647 : Int32)) / (spv + (1 : Int32))) * (spv + (1 : Int32))))]))
  refine Ends.go (fun _ => XS.istore X11.here hx rfl (hb hby at_117) rfl (l' := #[iv vk, iv vf, iv vs, iv vt, iv ve, rv b1, iv env, iv spv, iv ((vs &&& (2147483647 : Int32)) - ((vs &&& (2147483647 : Int32)) / (spv + (1 : Int32))) * (spv + (1 : Int32))), un]) rfl) ?_
  show Ends p.tables e below G (T11.setTop (mkF m 119 #[iv vk, iv vf, iv vs, iv vt, iv ve, rv b1, iv env, iv spv, iv ((vs &&& (2147483647 : Int32)) - ((vs &&& (2147483647 : Int32)) / (spv + (1 : Int32))) * (spv + (1 : Int32))), un] []))
  obtain ⟨st, hst6, hst⟩ := own_irem (x := vs &&& 2147483647) (y := spv + 1) (own_mask31 _) hsp1 (by omega)
  generalize ((vs &&& (2147483647 : Int32)) - ((vs &&& (2147483647 : Int32)) / (spv + (1 : Int32))) * (spv + (1 : Int32))) = stv at hst ⊢
  show Ends p.tables e below G (T11.setTop (mkF m 119 #[iv vk, iv vf, iv vs, iv vt, iv ve, rv b1, iv env, iv spv, iv stv, un] []))
  refine Ends.go (fun _ => XS.aload X11.here hx rfl (hb hby at_119) rfl rfl) ?_
  show Ends p.tables e below G (T11.setTop (mkF m 121 #[iv vk, iv vf, iv vs, iv vt, iv ve, rv b1, iv env, iv spv, iv stv, un] [(.ref b1)]))
  refine Ends.go (fun _ => XS.iconst X11.here hx rfl (hb hby at_121)) ?_
  show Ends p.tables e below G (T11.setTop (mkF m 122 #[iv vk, iv vf, iv vs, iv vt, iv ve, rv b1, iv env, iv spv, iv stv, un] [(.int (0 : Int32)), (.ref b1)]))
  refine Ends.go (fun _ => XS.iload X11.here hx rfl (hb hby at_122) rfl) ?_
  show Ends p.tables e below G (T11.setTop (mkF m 124 #[iv vk, iv vf, iv vs, iv vt, iv ve, rv b1, iv env, iv spv, iv stv, un] [(.int stv), (.int (0 : Int32)), (.ref b1)]))
  refine Ends.go (fun _ => XS.iload X11.here hx rfl (hb hby at_124) rfl) ?_
  show Ends p.tables e below G (T11.setTop (mkF m 126 #[iv vk, iv vf, iv vs, iv vt, iv ve, rv b1, iv env, iv spv, iv stv, un] [(.int spv), (.int stv), (.int (0 : Int32)), (.ref b1)]))
  refine Ends.go (fun _ => XS.iload X11.here hx rfl (hb hby at_126) rfl) ?_
  show Ends p.tables e below G (T11.setTop (mkF m 128 #[iv vk, iv vf, iv vs, iv vt, iv ve, rv b1, iv env, iv spv, iv stv, un] [(.int env), (.int spv), (.int stv), (.int (0 : Int32)), (.ref b1)]))
  obtain ⟨_, _, ⟨T12, L12, k12, n12⟩, -, X12, ⟨Lc12, hQ12, l12, y12, z12⟩, st12⟩ := Jvm.LawKit.callS X11 hx (y := (⟨"com/example/belge/belge/XmlScannerLineBreaksPinLaw", "at", "([BIIII)I"⟩ : MethodName)) hown (mvT hZ (hw _ (List.mem_of_getElem? (i := 6) rfl))) (mvT hZ (hw _ (List.mem_of_getElem? (i := 7) rfl))) (mvT hZ (hw _ (List.mem_of_getElem? (i := 3) rfl))) (mvT hZ (hw _ (List.mem_of_getElem? (i := 8) rfl))) (by decide) (backOf (W := 0) (rm2 l Z a0 hw [] b1 (0 : Int32) stv spv env F 0 st sp en h11 n0 sz11 VF (by decide) (by decide) hst hsp hen (by omega) (by omega) (by omega)) hZ (hw _ (List.mem_of_getElem? (i := 8) rfl)) (hw _ (List.mem_of_getElem? (i := 3) rfl)) (by decide) (by decide)) (g := (mkF m 128 #[iv vk, iv vf, iv vs, iv vt, iv ve, rv b1, iv env, iv spv, iv stv, un] [(.int env), (.int spv), (.int stv), (.int (0 : Int32)), (.ref b1)])) rfl (by rw [hml]; rfl) (argsL := [(.ref b1), (.int (0 : Int32)), (.int stv), (.int spv), (.int env)]) (rest := []) (lenOf pd_1 rfl) rfl (by show 2 * 0 + _ ≤ _; exact Nat.le_of_eq rfl) (hb hby at_128) (fun _ _ => ⟨rfl, e11, (by decide : ((((((0 + 1) + 0) + 0) + 0) + 0) + 0) + 0 ≤ _), (by decide : ((((((0 + 5) + 0) + 0) + 0) + 0) + 0) + 0 ≤ _)⟩)
  dsimp only [Pt.U, Pt.locs, Pt.cells, Pt.slots] at X12 l12 y12 z12 st12 hQ12
  subst l12 y12 z12
  obtain ⟨rfl, N12q, e12⟩ := hQ12
  have N12 := Fr.app N11 N12q
  refine Ends.go (fun _ => st12 _) ?_
  show Ends p.tables e below G (T12.setTop (mkF m 131 #[iv vk, iv vf, iv vs, iv vt, iv ve, rv b1, iv env, iv spv, iv stv, un] [(.int (own_at F 0 st sp en))]))
  refine Ends.go (fun _ => XS.aload X12.here hx rfl (hb hby at_131) rfl rfl) ?_
  show Ends p.tables e below G (T12.setTop (mkF m 133 #[iv vk, iv vf, iv vs, iv vt, iv ve, rv b1, iv env, iv spv, iv stv, un] [(.ref b1), (.int (own_at F 0 st sp en))]))
  refine Ends.go (fun _ => XS.iconst X12.here hx rfl (hb hby at_133)) ?_
  show Ends p.tables e below G (T12.setTop (mkF m 134 #[iv vk, iv vf, iv vs, iv vt, iv ve, rv b1, iv env, iv spv, iv stv, un] [(.int (1 : Int32)), (.ref b1), (.int (own_at F 0 st sp en))]))
  refine Ends.go (fun _ => XS.iload X12.here hx rfl (hb hby at_134) rfl) ?_
  show Ends p.tables e below G (T12.setTop (mkF m 136 #[iv vk, iv vf, iv vs, iv vt, iv ve, rv b1, iv env, iv spv, iv stv, un] [(.int stv), (.int (1 : Int32)), (.ref b1), (.int (own_at F 0 st sp en))]))
  refine Ends.go (fun _ => XS.iload X12.here hx rfl (hb hby at_136) rfl) ?_
  show Ends p.tables e below G (T12.setTop (mkF m 138 #[iv vk, iv vf, iv vs, iv vt, iv ve, rv b1, iv env, iv spv, iv stv, un] [(.int spv), (.int stv), (.int (1 : Int32)), (.ref b1), (.int (own_at F 0 st sp en))]))
  refine Ends.go (fun _ => XS.iload X12.here hx rfl (hb hby at_138) rfl) ?_
  show Ends p.tables e below G (T12.setTop (mkF m 140 #[iv vk, iv vf, iv vs, iv vt, iv ve, rv b1, iv env, iv spv, iv stv, un] [(.int env), (.int spv), (.int stv), (.int (1 : Int32)), (.ref b1), (.int (own_at F 0 st sp en))]))
  obtain ⟨_, _, ⟨T13, L13, k13, n13⟩, -, X13, ⟨Lc13, hQ13, l13, y13, z13⟩, st13⟩ := Jvm.LawKit.callS X12 hx (y := (⟨"com/example/belge/belge/XmlScannerLineBreaksPinLaw", "at", "([BIIII)I"⟩ : MethodName)) hown (mvT hZ (hw _ (List.mem_of_getElem? (i := 6) rfl))) (mvT hZ (hw _ (List.mem_of_getElem? (i := 7) rfl))) (mvT hZ (hw _ (List.mem_of_getElem? (i := 3) rfl))) (mvT hZ (hw _ (List.mem_of_getElem? (i := 8) rfl))) (by decide) (backOf (W := 1) (rm2 l Z a0 hw [] b1 (1 : Int32) stv spv env F 1 st sp en h11 n0 sz11 VF (by decide) (by decide) hst hsp hen (by omega) (by omega) (by omega)) hZ (hw _ (List.mem_of_getElem? (i := 8) rfl)) (hw _ (List.mem_of_getElem? (i := 3) rfl)) (by decide) (by decide)) (g := (mkF m 140 #[iv vk, iv vf, iv vs, iv vt, iv ve, rv b1, iv env, iv spv, iv stv, un] [(.int env), (.int spv), (.int stv), (.int (1 : Int32)), (.ref b1), (.int (own_at F 0 st sp en))])) rfl (by rw [hml]; rfl) (argsL := [(.ref b1), (.int (1 : Int32)), (.int stv), (.int spv), (.int env)]) (rest := [(.int (own_at F 0 st sp en))]) (lenOf pd_1 rfl) rfl (by show 2 * 0 + _ ≤ _; exact Nat.le_of_eq rfl) (hb hby at_140) (fun _ _ => ⟨rfl, e12, (by decide : (((((((0 + 1) + 0) + 0) + 0) + 0) + 0) + 0) + 0 ≤ _), (by decide : (((((((0 + 5) + 0) + 0) + 0) + 0) + 0) + 0) + 0 ≤ _)⟩)
  dsimp only [Pt.U, Pt.locs, Pt.cells, Pt.slots] at X13 l13 y13 z13 st13 hQ13
  subst l13 y13 z13
  obtain ⟨rfl, N13q, e13⟩ := hQ13
  have N13 := Fr.app N12 N13q
  refine Ends.go (fun _ => st13 _) ?_
  show Ends p.tables e below G (T13.setTop (mkF m 143 #[iv vk, iv vf, iv vs, iv vt, iv ve, rv b1, iv env, iv spv, iv stv, un] [(.int (own_at F 1 st sp en)), (.int (own_at F 0 st sp en))]))
  refine Ends.go (fun _ => XS.iadd X13.here hx rfl (hb hby at_143) rfl) ?_
  show Ends p.tables e below G (T13.setTop (mkF m 144 #[iv vk, iv vf, iv vs, iv vt, iv ve, rv b1, iv env, iv spv, iv stv, un] [(.int ((own_at F 0 st sp en) + (own_at F 1 st sp en)))]))
  refine Ends.go (fun _ => XS.aload X13.here hx rfl (hb hby at_144) rfl rfl) ?_
  show Ends p.tables e below G (T13.setTop (mkF m 146 #[iv vk, iv vf, iv vs, iv vt, iv ve, rv b1, iv env, iv spv, iv stv, un] [(.ref b1), (.int ((own_at F 0 st sp en) + (own_at F 1 st sp en)))]))
  refine Ends.go (fun _ => XS.iconst X13.here hx rfl (hb hby at_146)) ?_
  show Ends p.tables e below G (T13.setTop (mkF m 147 #[iv vk, iv vf, iv vs, iv vt, iv ve, rv b1, iv env, iv spv, iv stv, un] [(.int (2 : Int32)), (.ref b1), (.int ((own_at F 0 st sp en) + (own_at F 1 st sp en)))]))
  refine Ends.go (fun _ => XS.iload X13.here hx rfl (hb hby at_147) rfl) ?_
  show Ends p.tables e below G (T13.setTop (mkF m 149 #[iv vk, iv vf, iv vs, iv vt, iv ve, rv b1, iv env, iv spv, iv stv, un] [(.int stv), (.int (2 : Int32)), (.ref b1), (.int ((own_at F 0 st sp en) + (own_at F 1 st sp en)))]))
  refine Ends.go (fun _ => XS.iload X13.here hx rfl (hb hby at_149) rfl) ?_
  show Ends p.tables e below G (T13.setTop (mkF m 151 #[iv vk, iv vf, iv vs, iv vt, iv ve, rv b1, iv env, iv spv, iv stv, un] [(.int spv), (.int stv), (.int (2 : Int32)), (.ref b1), (.int ((own_at F 0 st sp en) + (own_at F 1 st sp en)))]))
  refine Ends.go (fun _ => XS.iload X13.here hx rfl (hb hby at_151) rfl) ?_
  show Ends p.tables e below G (T13.setTop (mkF m 153 #[iv vk, iv vf, iv vs, iv vt, iv ve, rv b1, iv env, iv spv, iv stv, un] [(.int env), (.int spv), (.int stv), (.int (2 : Int32)), (.ref b1), (.int ((own_at F 0 st sp en) + (own_at F 1 st sp en)))]))
  obtain ⟨_, _, ⟨T14, L14, k14, n14⟩, -, X14, ⟨Lc14, hQ14, l14, y14, z14⟩, st14⟩ := Jvm.LawKit.callS X13 hx (y := (⟨"com/example/belge/belge/XmlScannerLineBreaksPinLaw", "at", "([BIIII)I"⟩ : MethodName)) hown (mvT hZ (hw _ (List.mem_of_getElem? (i := 6) rfl))) (mvT hZ (hw _ (List.mem_of_getElem? (i := 7) rfl))) (mvT hZ (hw _ (List.mem_of_getElem? (i := 3) rfl))) (mvT hZ (hw _ (List.mem_of_getElem? (i := 8) rfl))) (by decide) (backOf (W := 1) (rm2 l Z a0 hw [] b1 (2 : Int32) stv spv env F 2 st sp en h11 n0 sz11 VF (by decide) (by decide) hst hsp hen (by omega) (by omega) (by omega)) hZ (hw _ (List.mem_of_getElem? (i := 8) rfl)) (hw _ (List.mem_of_getElem? (i := 3) rfl)) (by decide) (by decide)) (g := (mkF m 153 #[iv vk, iv vf, iv vs, iv vt, iv ve, rv b1, iv env, iv spv, iv stv, un] [(.int env), (.int spv), (.int stv), (.int (2 : Int32)), (.ref b1), (.int ((own_at F 0 st sp en) + (own_at F 1 st sp en)))])) rfl (by rw [hml]; rfl) (argsL := [(.ref b1), (.int (2 : Int32)), (.int stv), (.int spv), (.int env)]) (rest := [(.int ((own_at F 0 st sp en) + (own_at F 1 st sp en)))]) (lenOf pd_1 rfl) rfl (by show 2 * 0 + _ ≤ _; exact Nat.le_of_eq rfl) (hb hby at_153) (fun _ _ => ⟨rfl, e13, (by decide : ((((((((0 + 1) + 0) + 0) + 0) + 0) + 0) + 0) + 0) + 0 ≤ _), (by decide : ((((((((0 + 5) + 0) + 0) + 0) + 0) + 0) + 0) + 0) + 0 ≤ _)⟩)
  dsimp only [Pt.U, Pt.locs, Pt.cells, Pt.slots] at X14 l14 y14 z14 st14 hQ14
  subst l14 y14 z14
  obtain ⟨rfl, N14q, e14⟩ := hQ14
  have N14 := Fr.app N13 N14q
  refine Ends.go (fun _ => st14 _) ?_
  show Ends p.tables e below G (T14.setTop (mkF m 156 #[iv vk, iv vf, iv vs, iv vt, iv ve, rv b1, iv env, iv spv, iv stv, un] [(.int (own_at F 2 st sp en)), (.int ((own_at F 0 st sp en) + (own_at F 1 st sp en)))]))
  refine Ends.go (fun _ => XS.iadd X14.here hx rfl (hb hby at_156) rfl) ?_
  show Ends p.tables e below G (T14.setTop (mkF m 157 #[iv vk, iv vf, iv vs, iv vt, iv ve, rv b1, iv env, iv spv, iv stv, un] [(.int (((own_at F 0 st sp en) + (own_at F 1 st sp en)) + (own_at F 2 st sp en)))]))
  refine Ends.go (fun _ => XS.aload X14.here hx rfl (hb hby at_157) rfl rfl) ?_
  show Ends p.tables e below G (T14.setTop (mkF m 159 #[iv vk, iv vf, iv vs, iv vt, iv ve, rv b1, iv env, iv spv, iv stv, un] [(.ref b1), (.int (((own_at F 0 st sp en) + (own_at F 1 st sp en)) + (own_at F 2 st sp en)))]))
  refine Ends.go (fun _ => XS.iconst X14.here hx rfl (hb hby at_159)) ?_
  show Ends p.tables e below G (T14.setTop (mkF m 160 #[iv vk, iv vf, iv vs, iv vt, iv ve, rv b1, iv env, iv spv, iv stv, un] [(.int (3 : Int32)), (.ref b1), (.int (((own_at F 0 st sp en) + (own_at F 1 st sp en)) + (own_at F 2 st sp en)))]))
  refine Ends.go (fun _ => XS.iload X14.here hx rfl (hb hby at_160) rfl) ?_
  show Ends p.tables e below G (T14.setTop (mkF m 162 #[iv vk, iv vf, iv vs, iv vt, iv ve, rv b1, iv env, iv spv, iv stv, un] [(.int stv), (.int (3 : Int32)), (.ref b1), (.int (((own_at F 0 st sp en) + (own_at F 1 st sp en)) + (own_at F 2 st sp en)))]))
  refine Ends.go (fun _ => XS.iload X14.here hx rfl (hb hby at_162) rfl) ?_
  show Ends p.tables e below G (T14.setTop (mkF m 164 #[iv vk, iv vf, iv vs, iv vt, iv ve, rv b1, iv env, iv spv, iv stv, un] [(.int spv), (.int stv), (.int (3 : Int32)), (.ref b1), (.int (((own_at F 0 st sp en) + (own_at F 1 st sp en)) + (own_at F 2 st sp en)))]))
  refine Ends.go (fun _ => XS.iload X14.here hx rfl (hb hby at_164) rfl) ?_
  show Ends p.tables e below G (T14.setTop (mkF m 166 #[iv vk, iv vf, iv vs, iv vt, iv ve, rv b1, iv env, iv spv, iv stv, un] [(.int env), (.int spv), (.int stv), (.int (3 : Int32)), (.ref b1), (.int (((own_at F 0 st sp en) + (own_at F 1 st sp en)) + (own_at F 2 st sp en)))]))
  obtain ⟨_, _, ⟨T15, L15, k15, n15⟩, -, X15, ⟨Lc15, hQ15, l15, y15, z15⟩, st15⟩ := Jvm.LawKit.callS X14 hx (y := (⟨"com/example/belge/belge/XmlScannerLineBreaksPinLaw", "at", "([BIIII)I"⟩ : MethodName)) hown (mvT hZ (hw _ (List.mem_of_getElem? (i := 6) rfl))) (mvT hZ (hw _ (List.mem_of_getElem? (i := 7) rfl))) (mvT hZ (hw _ (List.mem_of_getElem? (i := 3) rfl))) (mvT hZ (hw _ (List.mem_of_getElem? (i := 8) rfl))) (by decide) (backOf (W := 1) (rm2 l Z a0 hw [] b1 (3 : Int32) stv spv env F 3 st sp en h11 n0 sz11 VF (by decide) (by decide) hst hsp hen (by omega) (by omega) (by omega)) hZ (hw _ (List.mem_of_getElem? (i := 8) rfl)) (hw _ (List.mem_of_getElem? (i := 3) rfl)) (by decide) (by decide)) (g := (mkF m 166 #[iv vk, iv vf, iv vs, iv vt, iv ve, rv b1, iv env, iv spv, iv stv, un] [(.int env), (.int spv), (.int stv), (.int (3 : Int32)), (.ref b1), (.int (((own_at F 0 st sp en) + (own_at F 1 st sp en)) + (own_at F 2 st sp en)))])) rfl (by rw [hml]; rfl) (argsL := [(.ref b1), (.int (3 : Int32)), (.int stv), (.int spv), (.int env)]) (rest := [(.int (((own_at F 0 st sp en) + (own_at F 1 st sp en)) + (own_at F 2 st sp en)))]) (lenOf pd_1 rfl) rfl (by show 2 * 0 + _ ≤ _; exact Nat.le_of_eq rfl) (hb hby at_166) (fun _ _ => ⟨rfl, e14, (by decide : (((((((((0 + 1) + 0) + 0) + 0) + 0) + 0) + 0) + 0) + 0) + 0 ≤ _), (by decide : (((((((((0 + 5) + 0) + 0) + 0) + 0) + 0) + 0) + 0) + 0) + 0 ≤ _)⟩)
  dsimp only [Pt.U, Pt.locs, Pt.cells, Pt.slots] at X15 l15 y15 z15 st15 hQ15
  subst l15 y15 z15
  obtain ⟨rfl, N15q, e15⟩ := hQ15
  have N15 := Fr.app N14 N15q
  refine Ends.go (fun _ => st15 _) ?_
  show Ends p.tables e below G (T15.setTop (mkF m 169 #[iv vk, iv vf, iv vs, iv vt, iv ve, rv b1, iv env, iv spv, iv stv, un] [(.int (own_at F 3 st sp en)), (.int (((own_at F 0 st sp en) + (own_at F 1 st sp en)) + (own_at F 2 st sp en)))]))
  refine Ends.go (fun _ => XS.iadd X15.here hx rfl (hb hby at_169) rfl) ?_
  show Ends p.tables e below G (T15.setTop (mkF m 170 #[iv vk, iv vf, iv vs, iv vt, iv ve, rv b1, iv env, iv spv, iv stv, un] [(.int ((((own_at F 0 st sp en) + (own_at F 1 st sp en)) + (own_at F 2 st sp en)) + (own_at F 3 st sp en)))]))
  refine Ends.go (fun _ => XS.aload X15.here hx rfl (hb hby at_170) rfl rfl) ?_
  show Ends p.tables e below G (T15.setTop (mkF m 172 #[iv vk, iv vf, iv vs, iv vt, iv ve, rv b1, iv env, iv spv, iv stv, un] [(.ref b1), (.int ((((own_at F 0 st sp en) + (own_at F 1 st sp en)) + (own_at F 2 st sp en)) + (own_at F 3 st sp en)))]))
  refine Ends.go (fun _ => XS.iconst X15.here hx rfl (hb hby at_172)) ?_
  show Ends p.tables e below G (T15.setTop (mkF m 173 #[iv vk, iv vf, iv vs, iv vt, iv ve, rv b1, iv env, iv spv, iv stv, un] [(.int (4 : Int32)), (.ref b1), (.int ((((own_at F 0 st sp en) + (own_at F 1 st sp en)) + (own_at F 2 st sp en)) + (own_at F 3 st sp en)))]))
  refine Ends.go (fun _ => XS.iload X15.here hx rfl (hb hby at_173) rfl) ?_
  show Ends p.tables e below G (T15.setTop (mkF m 175 #[iv vk, iv vf, iv vs, iv vt, iv ve, rv b1, iv env, iv spv, iv stv, un] [(.int stv), (.int (4 : Int32)), (.ref b1), (.int ((((own_at F 0 st sp en) + (own_at F 1 st sp en)) + (own_at F 2 st sp en)) + (own_at F 3 st sp en)))]))
  refine Ends.go (fun _ => XS.iload X15.here hx rfl (hb hby at_175) rfl) ?_
  show Ends p.tables e below G (T15.setTop (mkF m 177 #[iv vk, iv vf, iv vs, iv vt, iv ve, rv b1, iv env, iv spv, iv stv, un] [(.int spv), (.int stv), (.int (4 : Int32)), (.ref b1), (.int ((((own_at F 0 st sp en) + (own_at F 1 st sp en)) + (own_at F 2 st sp en)) + (own_at F 3 st sp en)))]))
  refine Ends.go (fun _ => XS.iload X15.here hx rfl (hb hby at_177) rfl) ?_
  show Ends p.tables e below G (T15.setTop (mkF m 179 #[iv vk, iv vf, iv vs, iv vt, iv ve, rv b1, iv env, iv spv, iv stv, un] [(.int env), (.int spv), (.int stv), (.int (4 : Int32)), (.ref b1), (.int ((((own_at F 0 st sp en) + (own_at F 1 st sp en)) + (own_at F 2 st sp en)) + (own_at F 3 st sp en)))]))
  obtain ⟨_, _, ⟨T16, L16, k16, n16⟩, -, X16, ⟨Lc16, hQ16, l16, y16, z16⟩, st16⟩ := Jvm.LawKit.callS X15 hx (y := (⟨"com/example/belge/belge/XmlScannerLineBreaksPinLaw", "at", "([BIIII)I"⟩ : MethodName)) hown (mvT hZ (hw _ (List.mem_of_getElem? (i := 6) rfl))) (mvT hZ (hw _ (List.mem_of_getElem? (i := 7) rfl))) (mvT hZ (hw _ (List.mem_of_getElem? (i := 3) rfl))) (mvT hZ (hw _ (List.mem_of_getElem? (i := 8) rfl))) (by decide) (backOf (W := 1) (rm2 l Z a0 hw [] b1 (4 : Int32) stv spv env F 4 st sp en h11 n0 sz11 VF (by decide) (by decide) hst hsp hen (by omega) (by omega) (by omega)) hZ (hw _ (List.mem_of_getElem? (i := 8) rfl)) (hw _ (List.mem_of_getElem? (i := 3) rfl)) (by decide) (by decide)) (g := (mkF m 179 #[iv vk, iv vf, iv vs, iv vt, iv ve, rv b1, iv env, iv spv, iv stv, un] [(.int env), (.int spv), (.int stv), (.int (4 : Int32)), (.ref b1), (.int ((((own_at F 0 st sp en) + (own_at F 1 st sp en)) + (own_at F 2 st sp en)) + (own_at F 3 st sp en)))])) rfl (by rw [hml]; rfl) (argsL := [(.ref b1), (.int (4 : Int32)), (.int stv), (.int spv), (.int env)]) (rest := [(.int ((((own_at F 0 st sp en) + (own_at F 1 st sp en)) + (own_at F 2 st sp en)) + (own_at F 3 st sp en)))]) (lenOf pd_1 rfl) rfl (by show 2 * 0 + _ ≤ _; exact Nat.le_of_eq rfl) (hb hby at_179) (fun _ _ => ⟨rfl, e15, (by decide : ((((((((((0 + 1) + 0) + 0) + 0) + 0) + 0) + 0) + 0) + 0) + 0) + 0 ≤ _), (by decide : ((((((((((0 + 5) + 0) + 0) + 0) + 0) + 0) + 0) + 0) + 0) + 0) + 0 ≤ _)⟩)
  dsimp only [Pt.U, Pt.locs, Pt.cells, Pt.slots] at X16 l16 y16 z16 st16 hQ16
  subst l16 y16 z16
  obtain ⟨rfl, N16q, e16⟩ := hQ16
  have N16 := Fr.app N15 N16q
  refine Ends.go (fun _ => st16 _) ?_
  show Ends p.tables e below G (T16.setTop (mkF m 182 #[iv vk, iv vf, iv vs, iv vt, iv ve, rv b1, iv env, iv spv, iv stv, un] [(.int (own_at F 4 st sp en)), (.int ((((own_at F 0 st sp en) + (own_at F 1 st sp en)) + (own_at F 2 st sp en)) + (own_at F 3 st sp en)))]))
  refine Ends.go (fun _ => XS.iadd X16.here hx rfl (hb hby at_182) rfl) ?_
  show Ends p.tables e below G (T16.setTop (mkF m 183 #[iv vk, iv vf, iv vs, iv vt, iv ve, rv b1, iv env, iv spv, iv stv, un] [(.int (((((own_at F 0 st sp en) + (own_at F 1 st sp en)) + (own_at F 2 st sp en)) + (own_at F 3 st sp en)) + (own_at F 4 st sp en)))]))
  refine Ends.go (fun _ => XS.istore X16.here hx rfl (hb hby at_183) rfl (l' := #[iv vk, iv vf, iv vs, iv vt, iv ve, rv b1, iv env, iv spv, iv stv, iv (((((own_at F 0 st sp en) + (own_at F 1 st sp en)) + (own_at F 2 st sp en)) + (own_at F 3 st sp en)) + (own_at F 4 st sp en))]) rfl) ?_
  show Ends p.tables e below G (T16.setTop (mkF m 185 #[iv vk, iv vf, iv vs, iv vt, iv ve, rv b1, iv env, iv spv, iv stv, iv (((((own_at F 0 st sp en) + (own_at F 1 st sp en)) + (own_at F 2 st sp en)) + (own_at F 3 st sp en)) + (own_at F 4 st sp en))] []))
  refine Ends.go (fun _ => XS.aload X16.here hx rfl (hb hby at_185) rfl rfl) ?_
  show Ends p.tables e below G (T16.setTop (mkF m 187 #[iv vk, iv vf, iv vs, iv vt, iv ve, rv b1, iv env, iv spv, iv stv, iv (((((own_at F 0 st sp en) + (own_at F 1 st sp en)) + (own_at F 2 st sp en)) + (own_at F 3 st sp en)) + (own_at F 4 st sp en))] [(.ref b1)]))
  refine Ends.go (fun _ => XS.iload X16.here hx rfl (hb hby at_187) rfl) ?_
  show Ends p.tables e below G (T16.setTop (mkF m 189 #[iv vk, iv vf, iv vs, iv vt, iv ve, rv b1, iv env, iv spv, iv stv, iv (((((own_at F 0 st sp en) + (own_at F 1 st sp en)) + (own_at F 2 st sp en)) + (own_at F 3 st sp en)) + (own_at F 4 st sp en))] [(.int stv), (.ref b1)]))
  refine Ends.go (fun _ => XS.iload X16.here hx rfl (hb hby at_189) rfl) ?_
  show Ends p.tables e below G (T16.setTop (mkF m 191 #[iv vk, iv vf, iv vs, iv vt, iv ve, rv b1, iv env, iv spv, iv stv, iv (((((own_at F 0 st sp en) + (own_at F 1 st sp en)) + (own_at F 2 st sp en)) + (own_at F 3 st sp en)) + (own_at F 4 st sp en))] [(.int spv), (.int stv), (.ref b1)]))
  refine Ends.go (fun _ => XS.iload X16.here hx rfl (hb hby at_191) rfl) ?_
  show Ends p.tables e below G (T16.setTop (mkF m 193 #[iv vk, iv vf, iv vs, iv vt, iv ve, rv b1, iv env, iv spv, iv stv, iv (((((own_at F 0 st sp en) + (own_at F 1 st sp en)) + (own_at F 2 st sp en)) + (own_at F 3 st sp en)) + (own_at F 4 st sp en))] [(.int env), (.int spv), (.int stv), (.ref b1)]))
  obtain ⟨_, _, ⟨T17, L17, k17, n17⟩, -, X17, ⟨Lc17, hQ17, l17, y17, z17⟩, st17⟩ := Jvm.LawKit.callS X16 hx (y := (⟨"com/example/belge/belge/XmlScanner", "lineBreaks", "([BIII)I"⟩ : MethodName)) hown (mvT hZ (hw _ (List.mem_of_getElem? (i := 9) rfl))) (mvT hZ (hw _ (List.mem_of_getElem? (i := 10) rfl))) (mvT hZ (hw _ (List.mem_of_getElem? (i := 11) rfl))) (mvT hZ (hw _ (List.mem_of_getElem? (i := 12) rfl))) (by decide) (backOf (W := 0) (rm3 l Z a0 hw [] b1 stv spv env F st sp en h11 n0 sz11 VF hst hsp hen (by omega) (by omega) (by omega)) hZ (hw _ (List.mem_of_getElem? (i := 12) rfl)) (hw _ (List.mem_of_getElem? (i := 11) rfl)) (by decide) (by decide)) (g := (mkF m 193 #[iv vk, iv vf, iv vs, iv vt, iv ve, rv b1, iv env, iv spv, iv stv, iv (((((own_at F 0 st sp en) + (own_at F 1 st sp en)) + (own_at F 2 st sp en)) + (own_at F 3 st sp en)) + (own_at F 4 st sp en))] [(.int env), (.int spv), (.int stv), (.ref b1)])) rfl (by rw [hml]; rfl) (argsL := [(.ref b1), (.int stv), (.int spv), (.int env)]) (rest := []) (lenOf pd_2 rfl) rfl (by show 2 * 0 + _ ≤ _; exact Nat.le_of_eq rfl) (hb hby at_193) (fun _ _ => ⟨rfl, e16, (by decide : (((((((((((0 + 1) + 0) + 0) + 0) + 0) + 0) + 0) + 0) + 0) + 0) + 0) + 0 ≤ _), (by decide : (((((((((((0 + 5) + 0) + 0) + 0) + 0) + 0) + 0) + 0) + 0) + 0) + 0) + 0 ≤ _)⟩)
  dsimp only [Pt.U, Pt.locs, Pt.cells, Pt.slots] at X17 l17 y17 z17 st17 hQ17
  subst l17 y17 z17
  obtain ⟨rfl, N17q, e17⟩ := hQ17
  have N17 := Fr.app N16 N17q
  refine Ends.go (fun _ => st17 _) ?_
  show Ends p.tables e below G (T17.setTop (mkF m 196 #[iv vk, iv vf, iv vs, iv vt, iv ve, rv b1, iv env, iv spv, iv stv, iv (((((own_at F 0 st sp en) + (own_at F 1 st sp en)) + (own_at F 2 st sp en)) + (own_at F 3 st sp en)) + (own_at F 4 st sp en))] [(.int (own_acc F en 0 st (sp - st)))]))
  refine Ends.go (fun _ => XS.iload X17.here hx rfl (hb hby at_196) rfl) ?_
  show Ends p.tables e below G (T17.setTop (mkF m 198 #[iv vk, iv vf, iv vs, iv vt, iv ve, rv b1, iv env, iv spv, iv stv, iv (((((own_at F 0 st sp en) + (own_at F 1 st sp en)) + (own_at F 2 st sp en)) + (own_at F 3 st sp en)) + (own_at F 4 st sp en))] [(.int (((((own_at F 0 st sp en) + (own_at F 1 st sp en)) + (own_at F 2 st sp en)) + (own_at F 3 st sp en)) + (own_at F 4 st sp en))), (.int (own_acc F en 0 st (sp - st)))]))
  refine Ends.go (fun _ => XS.icmpNo X17.here hx rfl (hb hby at_198) rfl (teq (own_total F st sp en (by omega) (by omega) (by omega) : (own_acc F en 0 st (sp - st)) = (((((own_at F 0 st sp en) + (own_at F 1 st sp en)) + (own_at F 2 st sp en)) + (own_at F 3 st sp en)) + (own_at F 4 st sp en)))).2) ?_
  show Ends p.tables e below G (T17.setTop (mkF m 201 #[iv vk, iv vf, iv vs, iv vt, iv ve, rv b1, iv env, iv spv, iv stv, iv (((((own_at F 0 st sp en) + (own_at F 1 st sp en)) + (own_at F 2 st sp en)) + (own_at F 3 st sp en)) + (own_at F 4 st sp en))] []))
  refine Ends.go (fun _ => XS.iconst X17.here hx rfl (hb hby at_201)) ?_
  show Ends p.tables e below G (T17.setTop (mkF m 202 #[iv vk, iv vf, iv vs, iv vt, iv ve, rv b1, iv env, iv spv, iv stv, iv (((((own_at F 0 st sp en) + (own_at F 1 st sp en)) + (own_at F 2 st sp en)) + (own_at F 3 st sp en)) + (own_at F 4 st sp en))] [(.int (1 : Int32))]))
  refine Ends.go (fun _ => XS.goto X17.here hx rfl (pc0 := 202) (pc' := 206) rfl (hb hby at_202) (by decide) (by decide)) ?_
  show Ends p.tables e below G (T17.setTop (mkF m 206 #[iv vk, iv vf, iv vs, iv vt, iv ve, rv b1, iv env, iv spv, iv stv, iv (((((own_at F 0 st sp en) + (own_at F 1 st sp en)) + (own_at F 2 st sp en)) + (own_at F 3 st sp en)) + (own_at F 4 st sp en))] [(.int (1 : Int32))]))
  refine own_finS (t := .boolean) X17 hx Bd.returns (by simp) Bd.notSynchronized (hb hby at_206) (Q := (Q0 Z vk vf vs vt ve h0 n0)) hG (by decide) (by decide) ?_
  show (Q0 Z vk vf vs vt ve h0 n0) _ T17.heap _
  rw [e17]
  exact ⟨rfl, N17⟩
set_option maxRecDepth 65536 in
set_option maxHeartbeats 40000000 in
theorem comes_1 {Post : Tables → Env → Array Value → State → Outcome → State → Prop} (hpost : ∀ tb e args s v u, (limb_1_1.after args s (.returned v) u = true ∧ limb_1_2.after args s (.returned v) u = true ∧ True) → FrameEnd s (.returned v) u (Jvm.fieldLocs frame_1_writes args s ++ Jvm.arrayLocs frame_1_arrays args s ++ Jvm.staticLocs frame_1_statics s) 16 128 → Post tb e args s (.returned v) u) :
    ArmFor flags0 classFile x code maxLocals ret World_1 tables_1 room_1 Calls_1 rest_1 Pre_1 Post := by
  intro l hfl _ _ p e ha hc hk s m args below hf hA hF happ hP
  obtain ⟨hcalls, hrest, hpre⟩ := hP
  obtain ⟨-, -, -, hnamed, -, -, -, hat⟩ := (Spec.applies_iff hf).mp happ
  obtain ⟨hg, hn⟩ := and_e (Cond.before_iff.mp (show (Jvm.Cond.and given_1 narrow_1).before args s = true from hpre))
  obtain ⟨gg1, gg2⟩ := and_e hg
  obtain ⟨gg3, gg4⟩ := and_e gg2
  obtain ⟨gg5, gg6⟩ := and_e gg4
  obtain ⟨gg7, gg8⟩ := and_e gg6
  obtain ⟨gg9, gg10⟩ := and_e gg8
  obtain ⟨w0, w1, w2, w3, w4, rfl⟩ : ∃ w0 w1 w2 w3 w4 : Value, args = #[w0, w1, w2, w3, w4] := by
    have hs : args.size = 5 := by simpa [Cond.value, given_1] using gg1
    obtain ⟨L⟩ := args
    match L, hs with
    | [w0, w1, w2, w3, w4], _ => exact ⟨w0, w1, w2, w3, w4, rfl⟩
  have hw := fun d (hd : d ∈ tables_1) => atoms_spec (ws := Jvm.Cond.code x code maxLocals ret :: tables_1) hat d (List.mem_cons_of_mem _ hd)
  obtain ⟨i0, ei0⟩ := is_v gg3
  obtain rfl : w0 = (.int i0) := Option.some.inj ei0
  obtain ⟨i1, ei1⟩ := is_v gg5
  obtain rfl : w1 = (.int i1) := Option.some.inj ei1
  obtain ⟨i2, ei2⟩ := is_v gg7
  obtain rfl : w2 = (.int i2) := Option.some.inj ei2
  obtain ⟨i3, ei3⟩ := is_v gg9
  obtain rfl : w3 = (.int i3) := Option.some.inj ei3
  obtain ⟨i4, ei4⟩ := is_v gg10
  obtain rfl : w4 = (.int i4) := Option.some.inj ei4
  obtain ⟨n, o, h1, h2, h3, _, L, rfl, ⟨rfl, N⟩, hq⟩ := rm0 l s _ hw tables_1 i0 i1 i2 i3 i4 s.heap s.heap.size (Nat.le_refl _)  p e ha hc hk s m _ below hf ((Spec.applies_iff_loose hf).mp happ).1 ⟨rfl, State.Warmed39.refl s, rfl⟩ trivial
  refine ⟨n, _, h1, h2, h3, hpost _ _ _ _ _ _ ⟨Cond.after_iff.mpr rfl, Cond.after_iff.mpr (eq_i res_at (Term.int_eval (1)) rfl), trivial⟩ ⟨hq.1, hq.2.1, (hq.2.2.sift fun y hy => Or.inr (N y hy)).mono (by decide) (by decide)⟩⟩
theorem main_1_1 : Claimed_1_1 := comes_1 fun _ _ _ _ _ _ h hF => ⟨h.1, hF⟩
theorem main_1_2 : Claimed_1_2 := comes_1 fun _ _ _ _ _ _ h hF => ⟨h.2.1, hF⟩
end Jvm.Pilot.@@N@@
namespace Jvm.Pilot.@@N@@
open Jvm Jvm.ClassFile Sem Op Lib Jvm.Free Jvm.Stand Jvm.Pilot.@@N@@.Jvm.D
/-! MADE BY PROGRAM (witnessworld.py) out of the Statement's table words and the real class files: 9 classes; the members and pool entries that the words name. The judged class is class 1, her method 1. -/
namespace start1
open Jvm.ClassFile
def u (s : String) : CpInfo := .utf8 (stringToUtf16 s)
/-- a pool by its gaps: so many unusable entries, then the entry; so many at the end -/
def gap : Nat → List CpInfo → List CpInfo
  | 0, r => r
  | n + 1, r => .unusable :: gap n r
def poolList (es : List (Nat × CpInfo)) (last : Nat) : List CpInfo := es.foldr (fun e r => gap e.1 (e.2 :: r)) (gap last [])
def pool (es : List (Nat × CpInfo)) (last : Nat) : Array CpInfo := ⟨poolList es last⟩
def fileOf (pool : Array CpInfo) (this : Nat) (attrs : Array Attribute := #[]) (ms : Array MethodInfo := #[]) (fl : Nat := 33) (sup : Nat := 0) (ifs : Array Nat := #[]) (fds : Array FieldInfo := #[]) : ClassFile where
  minorVersion := 0
  majorVersion := 65
  constantPool := pool
  accessFlags := fl
  thisClass := this
  superClass := sup
  interfaces := ifs
  fields := fds
  methods := ms
  attributes := attrs
def plain (name : String) (sup : Option ClassId) : Class where
  name := name
  kind := .ordinary
  loader := none
  accessFlags := 33
  super := sup
  interfaces := #[]
  cf := none
  fields := #[]
  methods := #[]
  instanceTypes := #[]
  staticTypes := #[]
  resolved := #[]
  callSites := []
  init := .initialized
  statics := none
  mirror := none

def pool0 : Array CpInfo := pool [(5, u "<init>"), (0, u "()V"), (1, .class_ 10), (1, u "java/lang/Object")] 113

def k0m0 : Method := { name := "<init>", desc := "()V", sig := { parameters := [], returnType := none }, accessFlags := 1, code := none }
/-- java/lang/Object -/
def k0 : Class := { plain "java/lang/Object" none with
  accessFlags := 33
  interfaces := #[]
  cf := some (fileOf pool0 8 #[] #[{ accessFlags := 1, nameIndex := 5, descriptorIndex := 6, attributes := #[] }] 33 0 #[] #[])
  fields := #[]
  methods := #[k0m0]
  instanceTypes := #[]
  staticTypes := #[]
  resolved := Array.replicate 124 none
  statics := none }

def pool1 : Array CpInfo := pool [(2, .class_ 4), (1, u "java/lang/Object"), (0, u "<init>"), (0, u "()V"), (0, .methodref 8 9), (0, .class_ 10), (0, .nameAndType 11 12), (0, u "com/example/belge/belge/XmlScannerLineBreaksPinLaw"), (0, u "pick"), (0, u "(IB)B"), (0, .integer 2147483647), (0, .methodref 8 15), (0, .nameAndType 16 17), (0, u "at"), (0, u "([BIIII)I"), (0, .methodref 19 20), (0, .class_ 21), (0, .nameAndType 22 23), (0, u "com/example/belge/belge/XmlScanner"), (0, u "lineBreaks"), (0, u "([BIII)I"), (2, u "law"), (0, u "(IIIII)Z")] 5

def k1m0 : Method := { name := "<init>", desc := "()V", sig := { parameters := [], returnType := none }, accessFlags := 1, code := none }
def k1c1 : Code := { maxStack := 6, maxLocals := 10, code := code, exceptionTable := #[], attributes := #[] }
def k1m1 : Method := { name := "law", desc := "(IIIII)Z", sig := { parameters := [.int, .int, .int, .int, .int], returnType := some .boolean }, accessFlags := 9, code := some k1c1 }
def k1c2 : Code := { maxStack := 2, maxLocals := 2, code := method_3_code, exceptionTable := #[], attributes := #[] }
def k1m2 : Method := { name := "pick", desc := "(IB)B", sig := { parameters := [.int, .byte], returnType := some .byte }, accessFlags := 10, code := some k1c2 }
def k1c3 : Code := { maxStack := 3, maxLocals := 6, code := method_4_code, exceptionTable := #[], attributes := #[] }
def k1m3 : Method := { name := "at", desc := "([BIIII)I", sig := { parameters := [(.array .byte), .int, .int, .int, .int], returnType := some .int }, accessFlags := 10, code := some k1c3 }
/-- com/example/belge/belge/XmlScannerLineBreaksPinLaw -/
def k1 : Class := { plain "com/example/belge/belge/XmlScannerLineBreaksPinLaw" (some 0) with
  accessFlags := 49
  interfaces := #[]
  cf := some (fileOf pool1 8 #[] #[{ accessFlags := 1, nameIndex := 5, descriptorIndex := 6, attributes := #[] }, { accessFlags := 9, nameIndex := 26, descriptorIndex := 27, attributes := #[] }, { accessFlags := 10, nameIndex := 11, descriptorIndex := 12, attributes := #[] }, { accessFlags := 10, nameIndex := 16, descriptorIndex := 17, attributes := #[] }] 49 2 #[] #[])
  fields := #[]
  methods := #[k1m0, k1m1, k1m2, k1m3]
  instanceTypes := #[]
  staticTypes := #[]
  resolved := Array.replicate 33 none
  statics := none }

def pool2 : Array CpInfo := pool [(2, .class_ 4), (1, u "java/lang/Object"), (2, .class_ 8), (0, u "com/example/belge/belge/XmlScanner$Names"), (2, .class_ 13), (1, u "com/example/belge/belge/XmlScanner"), (0, u "names"), (0, u "Lcom/example/belge/belge/XmlScanner$Names;"), (0, .class_ 17), (0, u "com/example/belge/belge/XmlScanner$QName"), (2, u "elements"), (0, u "[Lcom/example/belge/belge/XmlScanner$QName;"), (4, u "elementNamespaces"), (0, u "[Ljava/lang/String;"), (5, u "bindings"), (0, u "Lcom/example/belge/belge/NamespaceBindings;"), (2, u "attributeNames"), (2, u "attributeNamespaces"), (2, u "valueStarts"), (0, u "[I"), (2, u "valueEnds"), (2, u "plainValues"), (0, u "[Z"), (2, u "attributeValues"), (2, u "character"), (0, u "[B"), (2, u "doc"), (2, u "end"), (0, u "I"), (2, u "handler"), (0, u "Lcom/example/belge/belge/XmlScanner$Handler;"), (11, u "element"), (0, u "Lcom/example/belge/belge/XmlScanner$QName;"), (3, u "Ljava/lang/String;"), (8, u "namespace"), (2, u "depth"), (2, u "attributes"), (15, u "markupStart"), (2, u "pos"), (21, u "countedTo"), (2, u "linesCounted"), (2, u "lineBreaks"), (0, u "([BIII)I"), (2, u "BYTE_ORDER_MARK"), (6, u "DECLARATION"), (10, .class_ 171), (0, u "com/example/belge/belge/XmlScanner$NotTaken"), (60, u "NAME"), (2, u "COMMENT"), (19, u "CDATA"), (7, u "IN_TEXT"), (17, .class_ 283), (1, u "com/example/belge/belge/XmlScanner$Handler"), (8, u "CDATA_END"), (6, u "LINE_FEED"), (39, u "tags"), (26, u "IN_DOUBLE_QUOTES"), (2, u "IN_SINGLE_QUOTES"), (76, .class_ 447), (0, u "com/example/belge/belge/XmlScanner$ExpandedName"), (28, u "NAME_START"), (12, u "entityReferences"), (98, u "ORDINARY"), (0, u "B"), (2, u "SPECIAL")] 84

def k2c0 : Code := { maxStack := 3, maxLocals := 7, code := prog_125_method_26_code, exceptionTable := #[], attributes := #[] }
def k2m0 : Method := { name := "lineBreaks", desc := "([BIII)I", sig := { parameters := [(.array .byte), .int, .int, .int], returnType := some .int }, accessFlags := 8, code := some k2c0 }
/-- com/example/belge/belge/XmlScanner -/
def k2 : Class := { plain "com/example/belge/belge/XmlScanner" (some 0) with
  accessFlags := 48
  interfaces := #[]
  cf := some (fileOf pool2 11 #[.nestMembers #[7, 446, 16, 281, 170]] #[{ accessFlags := 8, nameIndex := 148, descriptorIndex := 149, attributes := #[] }] 48 2 #[] #[{ accessFlags := 26, nameIndex := 588, descriptorIndex := 589, attributes := #[] }, { accessFlags := 26, nameIndex := 592, descriptorIndex := 589, attributes := #[] }, { accessFlags := 26, nameIndex := 263, descriptorIndex := 58, attributes := #[] }, { accessFlags := 26, nameIndex := 366, descriptorIndex := 58, attributes := #[] }, { accessFlags := 26, nameIndex := 369, descriptorIndex := 58, attributes := #[] }, { accessFlags := 26, nameIndex := 232, descriptorIndex := 51, attributes := #[] }, { accessFlags := 26, nameIndex := 476, descriptorIndex := 51, attributes := #[] }, { accessFlags := 26, nameIndex := 299, descriptorIndex := 58, attributes := #[] }, { accessFlags := 26, nameIndex := 152, descriptorIndex := 58, attributes := #[] }, { accessFlags := 26, nameIndex := 159, descriptorIndex := 58, attributes := #[] }, { accessFlags := 26, nameIndex := 235, descriptorIndex := 58, attributes := #[] }, { accessFlags := 26, nameIndex := 255, descriptorIndex := 58, attributes := #[] }, { accessFlags := 26, nameIndex := 292, descriptorIndex := 58, attributes := #[] }, { accessFlags := 18, nameIndex := 61, descriptorIndex := 58, attributes := #[] }, { accessFlags := 18, nameIndex := 64, descriptorIndex := 65, attributes := #[] }, { accessFlags := 18, nameIndex := 68, descriptorIndex := 69, attributes := #[] }, { accessFlags := 2, nameIndex := 120, descriptorIndex := 65, attributes := #[] }, { accessFlags := 18, nameIndex := 14, descriptorIndex := 15, attributes := #[] }, { accessFlags := 2, nameIndex := 20, descriptorIndex := 21, attributes := #[] }, { accessFlags := 2, nameIndex := 26, descriptorIndex := 27, attributes := #[] }, { accessFlags := 2, nameIndex := 98, descriptorIndex := 65, attributes := #[] }, { accessFlags := 18, nameIndex := 33, descriptorIndex := 34, attributes := #[] }, { accessFlags := 2, nameIndex := 81, descriptorIndex := 82, attributes := #[] }, { accessFlags := 2, nameIndex := 95, descriptorIndex := 86, attributes := #[] }, { accessFlags := 2, nameIndex := 37, descriptorIndex := 21, attributes := #[] }, { accessFlags := 2, nameIndex := 40, descriptorIndex := 27, attributes := #[] }, { accessFlags := 2, nameIndex := 43, descriptorIndex := 44, attributes := #[] }, { accessFlags := 2, nameIndex := 47, descriptorIndex := 44, attributes := #[] }, { accessFlags := 2, nameIndex := 50, descriptorIndex := 51, attributes := #[] }, { accessFlags := 2, nameIndex := 54, descriptorIndex := 27, attributes := #[] }, { accessFlags := 2, nameIndex := 101, descriptorIndex := 65, attributes := #[] }, { accessFlags := 2, nameIndex := 339, descriptorIndex := 65, attributes := #[] }, { accessFlags := 2, nameIndex := 117, descriptorIndex := 65, attributes := #[] }, { accessFlags := 2, nameIndex := 489, descriptorIndex := 65, attributes := #[] }, { accessFlags := 18, nameIndex := 57, descriptorIndex := 58, attributes := #[] }, { accessFlags := 2, nameIndex := 145, descriptorIndex := 65, attributes := #[] }, { accessFlags := 2, nameIndex := 142, descriptorIndex := 65, attributes := #[] }])
  fields := #[{ name := "ORDINARY", type := .byte, accessFlags := 26, slot := 0, constantValue := 0 }, { name := "SPECIAL", type := .byte, accessFlags := 26, slot := 1, constantValue := 0 }, { name := "IN_TEXT", type := (.array .byte), accessFlags := 26, slot := 2, constantValue := 0 }, { name := "IN_DOUBLE_QUOTES", type := (.array .byte), accessFlags := 26, slot := 3, constantValue := 0 }, { name := "IN_SINGLE_QUOTES", type := (.array .byte), accessFlags := 26, slot := 4, constantValue := 0 }, { name := "NAME", type := (.array .boolean), accessFlags := 26, slot := 5, constantValue := 0 }, { name := "NAME_START", type := (.array .boolean), accessFlags := 26, slot := 6, constantValue := 0 }, { name := "LINE_FEED", type := (.array .byte), accessFlags := 26, slot := 7, constantValue := 0 }, { name := "BYTE_ORDER_MARK", type := (.array .byte), accessFlags := 26, slot := 8, constantValue := 0 }, { name := "DECLARATION", type := (.array .byte), accessFlags := 26, slot := 9, constantValue := 0 }, { name := "COMMENT", type := (.array .byte), accessFlags := 26, slot := 10, constantValue := 0 }, { name := "CDATA", type := (.array .byte), accessFlags := 26, slot := 11, constantValue := 0 }, { name := "CDATA_END", type := (.array .byte), accessFlags := 26, slot := 12, constantValue := 0 }, { name := "doc", type := (.array .byte), accessFlags := 18, slot := 0, constantValue := 0 }, { name := "end", type := .int, accessFlags := 18, slot := 1, constantValue := 0 }, { name := "handler", type := (.object "com/example/belge/belge/XmlScanner$Handler"), accessFlags := 18, slot := 2, constantValue := 0 }, { name := "pos", type := .int, accessFlags := 2, slot := 3, constantValue := 0 }, { name := "names", type := (.object "com/example/belge/belge/XmlScanner$Names"), accessFlags := 18, slot := 4, constantValue := 0 }, { name := "elements", type := (.array (.object "com/example/belge/belge/XmlScanner$QName")), accessFlags := 2, slot := 5, constantValue := 0 }, { name := "elementNamespaces", type := (.array (.object "java/lang/String")), accessFlags := 2, slot := 6, constantValue := 0 }, { name := "depth", type := .int, accessFlags := 2, slot := 7, constantValue := 0 }, { name := "bindings", type := (.object "com/example/belge/belge/NamespaceBindings"), accessFlags := 18, slot := 8, constantValue := 0 }, { name := "element", type := (.object "com/example/belge/belge/XmlScanner$QName"), accessFlags := 2, slot := 9, constantValue := 0 }, { name := "namespace", type := (.object "java/lang/String"), accessFlags := 2, slot := 10, constantValue := 0 }, { name := "attributeNames", type := (.array (.object "com/example/belge/belge/XmlScanner$QName")), accessFlags := 2, slot := 11, constantValue := 0 }, { name := "attributeNamespaces", type := (.array (.object "java/lang/String")), accessFlags := 2, slot := 12, constantValue := 0 }, { name := "valueStarts", type := (.array .int), accessFlags := 2, slot := 13, constantValue := 0 }, { name := "valueEnds", type := (.array .int), accessFlags := 2, slot := 14, constantValue := 0 }, { name := "plainValues", type := (.array .boolean), accessFlags := 2, slot := 15, constantValue := 0 }, { name := "attributeValues", type := (.array (.object "java/lang/String")), accessFlags := 2, slot := 16, constantValue := 0 }, { name := "attributes", type := .int, accessFlags := 2, slot := 17, constantValue := 0 }, { name := "tags", type := .int, accessFlags := 2, slot := 18, constantValue := 0 }, { name := "markupStart", type := .int, accessFlags := 2, slot := 19, constantValue := 0 }, { name := "entityReferences", type := .int, accessFlags := 2, slot := 20, constantValue := 0 }, { name := "character", type := (.array .byte), accessFlags := 18, slot := 21, constantValue := 0 }, { name := "linesCounted", type := .int, accessFlags := 2, slot := 22, constantValue := 0 }, { name := "countedTo", type := .int, accessFlags := 2, slot := 23, constantValue := 0 }]
  methods := #[k2m0]
  instanceTypes := #[(.array .byte), .int, (.object "com/example/belge/belge/XmlScanner$Handler"), .int, (.object "com/example/belge/belge/XmlScanner$Names"), (.array (.object "com/example/belge/belge/XmlScanner$QName")), (.array (.object "java/lang/String")), .int, (.object "com/example/belge/belge/NamespaceBindings"), (.object "com/example/belge/belge/XmlScanner$QName"), (.object "java/lang/String"), (.array (.object "com/example/belge/belge/XmlScanner$QName")), (.array (.object "java/lang/String")), (.array .int), (.array .int), (.array .boolean), (.array (.object "java/lang/String")), .int, .int, .int, .int, (.array .byte), .int, .int]
  staticTypes := #[.byte, .byte, (.array .byte), (.array .byte), (.array .byte), (.array .boolean), (.array .boolean), (.array .byte), (.array .byte), (.array .byte), (.array .byte), (.array .byte), (.array .byte)]
  resolved := Array.replicate 677 none
  statics := none }

def pool3 : Array CpInfo := pool [(1, u "java/lang/Cloneable"), (0, .class_ 1), (0, u "java/lang/Object"), (0, .class_ 3)] 3

/-- java/lang/Cloneable -/
def k3 : Class := { plain "java/lang/Cloneable" (some 0) with
  accessFlags := 1537
  interfaces := #[]
  cf := some (fileOf pool3 2 #[] #[] 1537 4 #[] #[])
  fields := #[]
  methods := #[]
  instanceTypes := #[]
  staticTypes := #[]
  resolved := Array.replicate 8 none
  statics := none }

def pool4 : Array CpInfo := pool [(1, u "java/io/Serializable"), (0, .class_ 1), (0, u "java/lang/Object"), (0, .class_ 3)] 3

/-- java/io/Serializable -/
def k4 : Class := { plain "java/io/Serializable" (some 0) with
  accessFlags := 1537
  interfaces := #[]
  cf := some (fileOf pool4 2 #[] #[] 1537 4 #[] #[])
  fields := #[]
  methods := #[]
  instanceTypes := #[]
  staticTypes := #[]
  resolved := Array.replicate 8 none
  statics := none }

/-- the primitive byte -/
def k5 : Class := { plain "byte" none with kind := .primitive 'B', accessFlags := 0x411 }
/-- [B -/
def k6 : Class := { plain "[B" (some 0) with kind := .array 5 .byte, interfaces := #[3, 4], accessFlags := 1041 }

/-- the primitive int -/
def k7 : Class := { plain "int" none with kind := .primitive 'I', accessFlags := 0x411 }
/-- [I -/
def k8 : Class := { plain "[I" (some 0) with kind := .array 7 .int, interfaces := #[3, 4], accessFlags := 1041 }

def heap : Heap := #[]
def classes : Array Class := #[k0, k1, k2, k3, k4, k5, k6, k7, k8]
def interned : List (Array UInt16 × Addr) := []
def slotsUsed : Nat := 0
def theMethod : MethodId := ⟨1, 1⟩
def args0 : Array Value := #[.int 5, .int 6, .int 7, .int 1, .int 3]
def aboutOver (below : List Frame) : State where
  vm := { classes := classes, interned := interned.toArray }
  heap := heap
  slotsUsed := slotsUsed
  threads := #[{ frames := .invoking theMethod args0 :: below }]
def below0 : List Frame := [.native { method := ⟨0, 0⟩, args := #[] }]
def about1 : State := aboutOver below0
def p0 : Program := .bare "" "" ""
def e0 : Env := launch0.env 0 0 0
theorem w_frames : about1.frames = Frame.invoking theMethod args0 :: below0 := rfl
set_option maxRecDepth 65536 in
theorem w_args : argsFit about1.vm theMethod args0 = true := by decide +kernel
set_option maxRecDepth 65536 in
theorem w_heap : heapFits about1 = true := by decide +kernel
set_option maxRecDepth 65536 in
theorem w_runnable : about1.curStatus? = some .runnable := by decide +kernel
set_option maxRecDepth 65536 in
theorem w_alone : about1.alone = true := by decide +kernel
set_option maxRecDepth 65536 in
theorem w_named : about1.methodNamed? x = some theMethod := by decide +kernel
set_option maxRecDepth 65536 in
theorem w_hears : about1.hears theMethod below0 = true := by decide +kernel
set_option maxRecDepth 65536 in
theorem w_ripe : about1.ripe theMethod args0 below0 = true := by decide +kernel
theorem w_running : about1.status = .running := rfl
set_option maxRecDepth 65536 in
theorem w_room : about1.hasRoom e0.platform room_1 = true :=
  launch0.hasRoom_least _ room_1 (by decide +kernel) (by decide +kernel) (by decide +kernel) (by decide +kernel) (by decide +kernel) (by decide +kernel)
theorem allAtoms_all (ts : List Jvm.Cond) (a : Array Jvm.Value) (st : Jvm.State) : (allAtoms ts).before a st = ts.all (fun c => c.before a st) := by
  induction ts with
  | nil => rfl
  | cons c t ih =>
    show (Jvm.Cond.and c (allAtoms t)).before a st = _
    rw [Jvm.Cond.before_and, ih, List.all_cons]
def words1 : List Jvm.Cond := Jvm.Cond.code x code maxLocals ret :: tables_1
/-- a 'code' word, met by the world's own term for the bytes: nothing is compared byte by byte -/
theorem code_word {y : MethodName} {bytes : ByteArray} {mx : Nat} {rt : Option FieldType} {a : Array Value} {s : State} {m : MethodId} {meth : Method} {c : Code} (h1 : s.methodNamed? y = some m) (h2 : s.vm.method? m = some meth) (h3 : meth.code = some c) (h4 : c.code = bytes)
    (h5 : (c.maxLocals == mx && c.exceptionTable.isEmpty && decide (c.maxStack ≤ mostOperands) && decide (meth.sig.returnType = rt) && !meth.locks && decide (parseMethodDescriptor y.desc = some meth.sig)) = true) : (Jvm.Cond.code y bytes mx rt).before a s = true := by
  simp only [Bool.and_eq_true, beq_iff_eq, Bool.not_eq_true', decide_eq_true_eq] at h5
  obtain ⟨⟨⟨⟨⟨g1, g2⟩, g3⟩, g4⟩, g5⟩, g6⟩ := h5
  simp [Cond.before, Cond.holds, Cond.value, h1, h2, h3, h4, g1, g2, g3, g4, g5, g6]
def isCode : Jvm.Cond → Bool
  | .code _ _ _ _ => true
  | _ => false
theorem all_split {L : List Jvm.Cond} {P : Jvm.Cond → Bool} (h1 : L.all (fun c => isCode c || P c) = true) (h2 : ∀ c ∈ L.filter isCode, P c = true) : L.all P = true := by
  refine List.all_eq_true.mpr fun c hc => ?_
  have h := List.all_eq_true.mp h1 c hc
  rcases Bool.eq_false_or_eq_true (isCode c) with hi | hi
  · exact h2 c (List.mem_filter.mpr ⟨hc, hi⟩)
  · simpa [hi] using h
set_option maxRecDepth 65536 in
theorem w_c0 : (Jvm.Cond.code x code maxLocals ret).before args0 about1 = true := code_word (m := ⟨1, 1⟩) (meth := k1m1) (c := k1c1) (by decide +kernel) rfl rfl rfl (by decide +kernel)
set_option maxRecDepth 65536 in
theorem w_c1 : (Jvm.Cond.code ({ cls := "com/example/belge/belge/XmlScannerLineBreaksPinLaw", name := "pick", desc := "(IB)B" } : Jvm.MethodName) method_3_code (2 : Nat) (Option.some Jvm.ClassFile.FieldType.byte)).before args0 about1 = true := code_word (m := ⟨1, 2⟩) (meth := k1m2) (c := k1c2) (by decide +kernel) rfl rfl rfl (by decide +kernel)
set_option maxRecDepth 65536 in
theorem w_c2 : (Jvm.Cond.code ({ cls := "com/example/belge/belge/XmlScannerLineBreaksPinLaw", name := "at", desc := "([BIIII)I" } : Jvm.MethodName) method_4_code (6 : Nat) (Option.some Jvm.ClassFile.FieldType.int)).before args0 about1 = true := code_word (m := ⟨1, 3⟩) (meth := k1m3) (c := k1c3) (by decide +kernel) rfl rfl rfl (by decide +kernel)
set_option maxRecDepth 65536 in
theorem w_c3 : (Jvm.Cond.code ({ cls := "com/example/belge/belge/XmlScanner", name := "lineBreaks", desc := "([BIII)I" } : Jvm.MethodName) prog_125_method_26_code (7 : Nat) (Option.some Jvm.ClassFile.FieldType.int)).before args0 about1 = true := code_word (m := ⟨2, 0⟩) (meth := k2m0) (c := k2c0) (by decide +kernel) rfl rfl rfl (by decide +kernel)
def codes1 : List Jvm.Cond := [Jvm.Cond.code x code maxLocals ret, Jvm.Cond.code ({ cls := "com/example/belge/belge/XmlScannerLineBreaksPinLaw", name := "pick", desc := "(IB)B" } : Jvm.MethodName) method_3_code (2 : Nat) (Option.some Jvm.ClassFile.FieldType.byte), Jvm.Cond.code ({ cls := "com/example/belge/belge/XmlScannerLineBreaksPinLaw", name := "at", desc := "([BIIII)I" } : Jvm.MethodName) method_4_code (6 : Nat) (Option.some Jvm.ClassFile.FieldType.int), Jvm.Cond.code ({ cls := "com/example/belge/belge/XmlScanner", name := "lineBreaks", desc := "([BIII)I" } : Jvm.MethodName) prog_125_method_26_code (7 : Nat) (Option.some Jvm.ClassFile.FieldType.int)]
set_option maxRecDepth 65536 in
theorem codes_eq : words1.filter isCode = codes1 := rfl
theorem w_codes : ∀ c ∈ words1.filter isCode, c.before args0 about1 = true := by
  rw [codes_eq]
  intro c hc
  simp only [codes1, List.mem_cons, List.not_mem_nil, or_false] at hc
  rcases hc with rfl | rfl | rfl | rfl
  · exact w_c0
  · exact w_c1
  · exact w_c2
  · exact w_c3
set_option maxRecDepth 65536 in
theorem w_t1 : words1.all (fun c => isCode c || c.before args0 about1) = true := by decide +kernel
theorem w_tables : (allAtoms (Jvm.Cond.code x code maxLocals ret :: tables_1)).before args0 about1 = true := by
  rw [allAtoms_all]
  show words1.all (fun c => c.before args0 about1) = true
  refine all_split ?_ w_codes
  rw [w_t1]
set_option maxRecDepth 65536 in
theorem w_case : (Jvm.Cond.and given_1 narrow_1).before args0 about1 = true := by decide +kernel
theorem w_applies : (headSpec (Jvm.Cond.code x code maxLocals ret :: tables_1) room_1).applies x e0.platform about1 = true :=
  (Spec.applies_iff w_frames).mpr ⟨w_running, w_runnable, w_alone, w_named, w_hears, w_ripe, w_room, w_tables⟩
theorem atStart : AtStart classFile x code maxLocals ret World_1 tables_1 room_1 Calls_1 rest_1 Pre_1 launch0 p0 e0 about1 theMethod args0 below0 :=
  ⟨lists_1, trivial, launch0.admits_env _ _ _, launch0.least_env, fairChoices_fair.cas, fairChoices_fair.clock, w_frames, w_args, w_heap, w_applies, trivial, trivial, w_case⟩
end start1
theorem witness_1 : WitnessClaimed_1 := ⟨start1.p0, start1.e0, start1.about1, start1.theMethod, start1.args0, start1.below0, start1.atStart⟩
end Jvm.Pilot.@@N@@
