import JvmDerived
import JvmDerived.Pilot.@@N@@Statement
import JvmDerived.Pilot.@@N@@Code
set_option linter.unusedVariables false
set_option linter.unusedSimpArgs false
namespace Jvm.Pilot.@@N@@
open Jvm Jvm.ClassFile Sem Op Lib Jvm.Free Jvm.Stand Jvm.LawKit Jvm.RoadKit Bundle Jvm.Pilot.@@N@@.Jvm.D
section OwnKit
variable {p : Program} {l : Launch} {e : Env} {R : Room} {s : State} {m : MethodId} {args : Array Value} {below : List Frame} {meth : Method} {c : Code} {T : State} {locs : List Loc} {cells slots : Nat} {Z : State} {h h' : Heap} {a b : Addr} {kc ks : Nat} {Q : Option Value → Heap → List Loc → Prop}
/-- from U the run comes to the method's end, and Q says what is left there -/
def own_Ends (p : Program) (e : Env) (below : List Frame) (s : State) (kc ks : Nat) (Q : Option Value → Heap → List Loc → Prop) (U : State) : Prop :=
  ∃ s₂ o, Steps p.tables e below U s₂ ∧ s₂.status = .running ∧ Ended s₂ below o ∧ ∃ v L, o = .returned v ∧ Q v s₂.heap L ∧ FrameEnd s o s₂ L kc ks
theorem own_step {U U' : State} (k1 : ∀ t, Steps p.tables e below U' t → Steps p.tables e below U t) (k2 : own_Ends p e below s kc ks Q U') : own_Ends p e below s kc ks Q U := by
  obtain ⟨s₂, o, h1, r⟩ := k2
  exact ⟨s₂, o, k1 _ h1, r⟩
theorem own_cast {g g' : JFrame} (q : g = g') (k : own_Ends p e below s kc ks Q (T.setTop g')) : own_Ends p e below s kc ks Q (T.setTop g) := q ▸ k
theorem own_ret0 (X : Stand p l e R s m args below meth c T locs cells slots) (hx : p.tables.exec = Jvm.exec) (hlk : meth.locks = false) (hret : meth.sig.returnType = none) {pc : Nat} {Ls : Array Slot}
    (hd : decode c.code pc = .ok (.return_, 1)) (hq : Q none T.heap locs) (hk : cells ≤ kc) (hn : slots ≤ ks) : own_Ends p e below s kc ks Q (T.setTop (mkF m pc Ls [])) := by
  obtain ⟨fs, hr, hrun, hended, hW, hsame⟩ := X.leave (v := none) (fun _ => rfl) hlk
  exact ⟨_, _, X.returnOut hx hret hd hr, hrun, hended, _, _, rfl, hq, ⟨_, rfl⟩, hW, hsame.mono hk hn⟩
theorem own_retN (X : Stand p l e R s m args below meth c T locs cells slots) (hx : p.tables.exec = Jvm.exec) (hlk : meth.locks = false) {t : FieldType} (hret : meth.sig.returnType = some t) (ht : t = .boolean ∨ t = .byte ∨ t = .char ∨ t = .short) {pc : Nat} {Ls : Array Slot} {z : Int32} {rest : List Value}
    (hd : decode c.code pc = .ok (.ireturn, 1)) {w : Int32} (hw : nar t z = w) (hq : Q (some (.int w)) T.heap locs) (hk : cells ≤ kc) (hn : slots ≤ ks) : own_Ends p e below s kc ks Q (T.setTop (mkF m pc Ls (.int z :: rest))) := by
  subst hw
  obtain ⟨fs, hr, hrun, hended, hW, hsame⟩ := X.leave (v := some (.int (nar t z))) (fun h => by rw [hret] at h; cases h) hlk
  exact ⟨_, _, retN X hx hret ht hd hr, hrun, hended, _, _, rfl, hq, ⟨_, rfl⟩, hW, hsame.mono hk hn⟩
theorem own_retI (X : Stand p l e R s m args below meth c T locs cells slots) (hx : p.tables.exec = Jvm.exec) (hlk : meth.locks = false) (hret : meth.sig.returnType = some .int) {pc : Nat} {Ls : Array Slot} {z : Int32} {rest : List Value}
    (hd : decode c.code pc = .ok (.ireturn, 1)) (hq : Q (some (.int z)) T.heap locs) (hk : cells ≤ kc) (hn : slots ≤ ks) : own_Ends p e below s kc ks Q (T.setTop (mkF m pc Ls (.int z :: rest))) := by
  obtain ⟨fs, hr, hrun, hended, hW, hsame⟩ := X.leave (v := some (.int z)) (fun h => by rw [hret] at h; cases h) hlk
  exact ⟨_, _, retOut X hx hret rfl (Or.inl ⟨rfl, Or.inl rfl, _, rfl⟩) hd hr, hrun, hended, _, _, rfl, hq, ⟨_, rfl⟩, hW, hsame.mono hk hn⟩
theorem own_retL (X : Stand p l e R s m args below meth c T locs cells slots) (hx : p.tables.exec = Jvm.exec) (hlk : meth.locks = false) (hret : meth.sig.returnType = some .long) {pc : Nat} {Ls : Array Slot} {z : Int64} {rest : List Value}
    (hd : decode c.code pc = .ok (.lreturn, 1)) (hq : Q (some (.long z)) T.heap locs) (hk : cells ≤ kc) (hn : slots ≤ ks) : own_Ends p e below s kc ks Q (T.setTop (mkF m pc Ls (.long z :: rest))) := by
  obtain ⟨fs, hr, hrun, hended, hW, hsame⟩ := X.leave (v := some (.long z)) (fun h => by rw [hret] at h; cases h) hlk
  exact ⟨_, _, retOut X hx hret rfl (Or.inr (Or.inl ⟨rfl, rfl, _, rfl⟩)) hd hr, hrun, hended, _, _, rfl, hq, ⟨_, rfl⟩, hW, hsame.mono hk hn⟩
theorem own_retA (X : Stand p l e R s m args below meth c T locs cells slots) (hx : p.tables.exec = Jvm.exec) (hlk : meth.locks = false) {t : FieldType} (hret : meth.sig.returnType = some t) {pc : Nat} {Ls : Array Slot} {z : Addr} {rest : List Value} (ht : t.isReference = true) (hnw : narrow t (.ref z) = .ref z)
    (hd : decode c.code pc = .ok (.areturn, 1)) (hq : Q (some (.ref z)) T.heap locs) (hk : cells ≤ kc) (hn : slots ≤ ks) : own_Ends p e below s kc ks Q (T.setTop (mkF m pc Ls (.ref z :: rest))) := by
  obtain ⟨fs, hr, hrun, hended, hW, hsame⟩ := X.leave (v := some (.ref z)) (fun h => by rw [hret] at h; cases h) hlk
  exact ⟨_, _, retOut X hx hret hnw (Or.inr (Or.inr (Or.inr (Or.inr ⟨rfl, ht, rfl⟩)))) hd hr, hrun, hended, _, _, rfl, hq, ⟨_, rfl⟩, hW, hsame.mono hk hn⟩
theorem own_lrem {g : JFrame} {target : State} (X : Stand p l e R s m args below meth c T locs cells slots) (hx : p.tables.exec = Jvm.exec) (hg : g.method = m) {x y : Int64} {rest : List Value} (hd : decode c.code g.pc = .ok (.lrem, 1)) (hs : g.stack = .long y :: .long x :: rest) (hy : y ≠ 0)
    (hr : Steps p.tables e below (T.setTop { g with pc := g.pc + 1, stack := .long (x % y) :: rest }) target) : Steps p.tables e below (T.setTop g) target := by
  have q : x - x / y * y = x % y := lrem_mod x y
  exact XS.lrem X.here hx hg hd hs hy (by rw [q]; exact hr)
theorem own_pop2L {g : JFrame} {target : State} (X : Stand p l e R s m args below meth c T locs cells slots) (hx : p.tables.exec = Jvm.exec) (hg : g.method = m) {x : Int64} {rest : List Value} (hd : decode c.code g.pc = .ok (.pop2, 1)) (hs : g.stack = .long x :: rest)
    (hr : Steps p.tables e below (T.setTop { g with pc := g.pc + 1, stack := rest }) target) : Steps p.tables e below (T.setTop g) target := by
  subst hg
  jvm_step X.here [X.here.top, hx, hd, hs, Value.category]
  exact hr
/-! arrays, by what each place holds -/
def own_up {α : Type} (f : Nat → α) (i : Nat) (x : α) : Nat → α := fun k => if k = i then x else f k
def own_AI (Z : State) (h : Heap) (a : Addr) (ty : FieldType) (n : Nat) (f : Nat → Int32) : Prop := ∃ c : Cell, Arr Z h a c ty ∧ c.slots.size = n ∧ ∀ k, k < n → c.slots[k]? = some (.int (f k))
def own_AJ (Z : State) (h : Heap) (a : Addr) (n : Nat) (f : Nat → Int64) : Prop := ∃ c : Cell, Arr Z h a c .long ∧ c.slots.size = n ∧ ∀ k, k < n → c.slots[k]? = some (.long (f k))
theorem own_AI.lt {ty : FieldType} {n : Nat} {f : Nat → Int32} (A : own_AI Z h a ty n f) : a < h.size := by obtain ⟨c, A, -⟩ := A; exact A.lt
theorem own_AI.ext {ty : FieldType} {n : Nat} {f : Nat → Int32} (A : own_AI Z h a ty n f) (E : Ext h h') : own_AI Z h' a ty n f := by obtain ⟨c, A, r⟩ := A; exact ⟨c, A.ext E, r⟩
theorem own_AI.other {ty : FieldType} {n : Nat} {f : Nat → Int32} {sl : Nat} {v : Value} (A : own_AI Z h b ty n f) (W : Wr h h' a sl v) (q : b ≠ a) : own_AI Z h' b ty n f := by obtain ⟨c, A, r⟩ := A; exact ⟨c, A.other W q, r⟩
theorem own_AI.keep {ty : FieldType} {n : Nat} {f : Nat → Int32} {ws : List Addr} (A : own_AI Z h a ty n f) (K : Keep h h' ws) (q : a ∉ ws) : own_AI Z h' a ty n f := by obtain ⟨c, A, r⟩ := A; exact ⟨c, ⟨K.2.1 a c A.1 q, A.2⟩, r⟩
theorem own_AJ.lt {n : Nat} {f : Nat → Int64} (A : own_AJ Z h a n f) : a < h.size := by obtain ⟨c, A, -⟩ := A; exact A.lt
theorem own_AJ.ext {n : Nat} {f : Nat → Int64} (A : own_AJ Z h a n f) (E : Ext h h') : own_AJ Z h' a n f := by obtain ⟨c, A, r⟩ := A; exact ⟨c, A.ext E, r⟩
theorem own_idx {j : Int32} {i n : Nat} {cl : Cell} (hi : j.toInt = (i : Int)) (hn : i < n) (hs : cl.slots.size = n) : ¬ (j < 0 ∨ cl.slots.size ≤ j.toNatClampNeg) ∧ j.toNatClampNeg = i := by
  have e : j.toNatClampNeg = i := by
    show j.toInt.toNat = i
    omega
  refine ⟨?_, e⟩
  rw [e, hs]
  intro q
  rcases q with q | q
  · rw [Int32.lt_iff_toInt_lt, hi] at q
    have z : (0 : Int32).toInt = 0 := by decide
    omega
  · omega
theorem own_set {n : Nat} {cl : Cell} {i : Nat} {v : Value} {g : Nat → Value} (hs : cl.slots.size = n) (hn : i < n) (hf : ∀ k, k < n → cl.slots[k]? = some (g k)) : (cl.setSlot i v).slots.size = n ∧ ∀ k, k < n → (cl.setSlot i v).slots[k]? = some (if k = i then v else g k) := by
  refine ⟨by rw [sz_set]; exact hs, fun k hk => ?_⟩
  by_cases q : k = i
  · subst q; simp [Cell.setSlot, hs, hn]
  · have : (cl.setSlot i v).slots[k]? = cl.slots[k]? := Array.getElem?_setIfInBounds_ne (fun z => q z.symm)
    rw [this, hf k hk, if_neg q]
theorem own_stI (X : Stand p l e R s m args below meth c T locs cells slots) (hx : p.tables.exec = Jvm.exec) (hZ : Z.Warmed39 s.vm) (eT : T.heap = h) {n : Nat} {f : Nat → Int32} (A : own_AI Z h a .int n f) {j x : Int32} (i : Nat) (hi : j.toInt = (i : Int)) (hn : i < n) {g : JFrame} (hg : g.method = m) {rest : List Value} (hs : g.stack = .int x :: .int j :: .ref a :: rest) (hd : decode c.code g.pc = .ok (.iastore, 1)) :
    ∃ T' h', Stand p l e R s m args below meth c T' (locs ++ [⟨a, i⟩]) cells slots ∧ T'.heap = h' ∧ Wr h h' a i (.int x) ∧ own_AI Z h' a .int n (own_up f i x) ∧ ∀ target, Steps p.tables e below (T'.setTop { g with pc := g.pc + 1, stack := rest }) target → Steps p.tables e below (T.setTop g) target := by
  obtain ⟨cl, A1, A2, A3⟩ := A
  obtain ⟨q1, q2⟩ := own_idx hi hn A2
  obtain ⟨T', h', X', e', W, st⟩ := stI X hx hZ eT A1 q1 hg hs hd
  rw [q2] at X' W
  obtain ⟨r1, r2⟩ := own_set (v := .int x) A2 hn A3
  refine ⟨T', h', X', e', W, ⟨cl.setSlot i (.int x), A1.same W, r1, fun k hk => ?_⟩, st⟩
  rw [r2 k hk]
  by_cases q : k = i
  · simp [own_up, q]
  · simp [own_up, q]
theorem own_stB (X : Stand p l e R s m args below meth c T locs cells slots) (hx : p.tables.exec = Jvm.exec) (hZ : Z.Warmed39 s.vm) (eT : T.heap = h) {n : Nat} {f : Nat → Int32} (A : own_AI Z h a .byte n f) {j x : Int32} (i : Nat) (hi : j.toInt = (i : Int)) (hn : i < n) {g : JFrame} (hg : g.method = m) {rest : List Value} (hs : g.stack = .int x :: .int j :: .ref a :: rest) (hd : decode c.code g.pc = .ok (.bastore, 1)) :
    ∃ T' h', Stand p l e R s m args below meth c T' (locs ++ [⟨a, i⟩]) cells slots ∧ T'.heap = h' ∧ Wr h h' a i (.int (x.toInt8.toInt32)) ∧ own_AI Z h' a .byte n (own_up f i (x.toInt8.toInt32)) ∧ ∀ target, Steps p.tables e below (T'.setTop { g with pc := g.pc + 1, stack := rest }) target → Steps p.tables e below (T.setTop g) target := by
  obtain ⟨cl, A1, A2, A3⟩ := A
  obtain ⟨q1, q2⟩ := own_idx hi hn A2
  obtain ⟨T', h', X', e', W, st⟩ := stB X hx hZ eT A1 q1 hg hs hd
  rw [q2] at X' W
  obtain ⟨r1, r2⟩ := own_set (v := .int (x.toInt8.toInt32)) A2 hn A3
  refine ⟨T', h', X', e', W, ⟨cl.setSlot i (.int (x.toInt8.toInt32)), A1.same W, r1, fun k hk => ?_⟩, st⟩
  rw [r2 k hk]
  by_cases q : k = i
  · simp [own_up, q]
  · simp [own_up, q]
theorem own_stJ (X : Stand p l e R s m args below meth c T locs cells slots) (hx : p.tables.exec = Jvm.exec) (hZ : Z.Warmed39 s.vm) (eT : T.heap = h) {n : Nat} {f : Nat → Int64} (A : own_AJ Z h a n f) {j : Int32} {x : Int64} (i : Nat) (hi : j.toInt = (i : Int)) (hn : i < n) {g : JFrame} (hg : g.method = m) {rest : List Value} (hs : g.stack = .long x :: .int j :: .ref a :: rest) (hd : decode c.code g.pc = .ok (.lastore, 1)) :
    ∃ T' h', Stand p l e R s m args below meth c T' (locs ++ [⟨a, i⟩]) cells slots ∧ T'.heap = h' ∧ Wr h h' a i (.long x) ∧ own_AJ Z h' a n (own_up f i x) ∧ ∀ target, Steps p.tables e below (T'.setTop { g with pc := g.pc + 1, stack := rest }) target → Steps p.tables e below (T.setTop g) target := by
  obtain ⟨cl, A1, A2, A3⟩ := A
  obtain ⟨q1, q2⟩ := own_idx hi hn A2
  obtain ⟨T', h', X', e', W, st⟩ := stJ X hx hZ eT A1 q1 hg hs hd
  rw [q2] at X' W
  obtain ⟨r1, r2⟩ := own_set (v := .long x) A2 hn A3
  refine ⟨T', h', X', e', W, ⟨cl.setSlot i (.long x), A1.same W, r1, fun k hk => ?_⟩, st⟩
  rw [r2 k hk]
  by_cases q : k = i
  · simp [own_up, q]
  · simp [own_up, q]
theorem own_ldI (X : Stand p l e R s m args below meth c T locs cells slots) (hx : p.tables.exec = Jvm.exec) (hZ : Z.Warmed39 s.vm) (eT : T.heap = h) {n : Nat} {f : Nat → Int32} (A : own_AI Z h a .int n f) {j : Int32} (i : Nat) (hi : j.toInt = (i : Int)) (hn : i < n) {g : JFrame} (hg : g.method = m) {rest : List Value} (hs : g.stack = .int j :: .ref a :: rest) (hd : decode c.code g.pc = .ok (.iaload, 1)) :
    ∀ target, Steps p.tables e below (T.setTop { g with pc := g.pc + 1, stack := .int (f i) :: rest }) target → Steps p.tables e below (T.setTop g) target := by
  obtain ⟨cl, A1, A2, A3⟩ := A
  obtain ⟨q1, q2⟩ := own_idx hi hn A2
  exact X.iaload hx (j := j) (v := .int (f i)) (by rw [eT]; exact A1.1) (State.isArrayOf_alike hZ.alike A1.2.1) A1.2.2 q1 (by rw [q2]; exact A3 i hn) hg hs hd
theorem own_ldB (X : Stand p l e R s m args below meth c T locs cells slots) (hx : p.tables.exec = Jvm.exec) (hZ : Z.Warmed39 s.vm) (eT : T.heap = h) {n : Nat} {f : Nat → Int32} (A : own_AI Z h a .byte n f) {j : Int32} (i : Nat) (hi : j.toInt = (i : Int)) (hn : i < n) {g : JFrame} (hg : g.method = m) {rest : List Value} (hs : g.stack = .int j :: .ref a :: rest) (hd : decode c.code g.pc = .ok (.baload, 1)) :
    ∀ target, Steps p.tables e below (T.setTop { g with pc := g.pc + 1, stack := .int (f i) :: rest }) target → Steps p.tables e below (T.setTop g) target := by
  obtain ⟨cl, A1, A2, A3⟩ := A
  obtain ⟨q1, q2⟩ := own_idx hi hn A2
  exact X.baloadBytes hx (j := j) (v := .int (f i)) (by rw [eT]; exact A1.1) (State.isArrayOf_alike hZ.alike A1.2.1) A1.2.2 q1 (by rw [q2]; exact A3 i hn) hg hs hd
theorem own_ldJ (X : Stand p l e R s m args below meth c T locs cells slots) (hx : p.tables.exec = Jvm.exec) (hZ : Z.Warmed39 s.vm) (eT : T.heap = h) {n : Nat} {f : Nat → Int64} (A : own_AJ Z h a n f) {j : Int32} (i : Nat) (hi : j.toInt = (i : Int)) (hn : i < n) {g : JFrame} (hg : g.method = m) {rest : List Value} (hs : g.stack = .int j :: .ref a :: rest) (hd : decode c.code g.pc = .ok (.laload, 1)) :
    ∀ target, Steps p.tables e below (T.setTop { g with pc := g.pc + 1, stack := .long (f i) :: rest }) target → Steps p.tables e below (T.setTop g) target := by
  obtain ⟨cl, A1, A2, A3⟩ := A
  obtain ⟨q1, q2⟩ := own_idx hi hn A2
  exact X.laload hx (j := j) (v := .long (f i)) (by rw [eT]; exact A1.1) (State.isArrayOf_alike hZ.alike A1.2.1) A1.2.2 q1 (by rw [q2]; exact A3 i hn) hg hs hd
theorem own_lenI (X : Stand p l e R s m args below meth c T locs cells slots) (hx : p.tables.exec = Jvm.exec) (hZ : Z.Warmed39 s.vm) (eT : T.heap = h) {ty : FieldType} {n : Nat} {f : Nat → Int32} (A : own_AI Z h a ty n f) {z : Int32} (hz : n.toInt32 = z) {g : JFrame} (hg : g.method = m) {rest : List Value} (hs : g.stack = .ref a :: rest) (hd : decode c.code g.pc = .ok (.arraylength, 1)) :
    ∀ target, Steps p.tables e below (T.setTop { g with pc := g.pc + 1, stack := .int z :: rest }) target → Steps p.tables e below (T.setTop g) target := by
  obtain ⟨cl, A1, A2, A3⟩ := A
  intro t k
  refine X.arraylength hx (by rw [eT]; exact A1.1) (State.isArrayOf_alike hZ.alike A1.2.1) hg hs hd t ?_
  rw [A2, hz]; exact k
theorem own_newI (X : Stand p l e R s m args below meth c T locs cells slots) (hx : p.tables.exec = Jvm.exec) (hZ : Z.Warmed39 s.vm) {a0 : Array Value} {aty : ArrayType} (w : (Cond.arrayClass (newarray.typeOf aty)).before a0 Z = true) (eT : T.heap = h) {g : JFrame} (hg : g.method = m) (hd : decode c.code g.pc = .ok (.newarray aty, 2)) {n : Int32} {rest : List Value} (hs : g.stack = .int n :: rest)
    {N : Nat} (hn : n.toInt = (N : Int)) (hb : N * 8 ≤ 536870912) (hc : cells + 1 ≤ R.cells) (hl : slots + N ≤ R.slots) (hdv : defaultValue (newarray.typeOf aty) = .int 0) :
    ∃ T' h', Stand p l e R s m args below meth c T' locs (cells + 1) (slots + N) ∧ T'.heap = h' ∧ Ext h h' ∧ own_AI Z h' h.size (newarray.typeOf aty) N (fun _ => 0) ∧
      ∀ target, Steps p.tables e below (T'.setTop { g with pc := g.pc + 2, stack := .ref h.size :: rest }) target → Steps p.tables e below (T.setTop g) target := by
  have e1 : n.toNatClampNeg = N := by
    show n.toInt.toNat = N
    omega
  have e2 : ¬ n < 0 := by
    rw [Int32.lt_iff_toInt_lt, hn]
    have z : (0 : Int32).toInt = 0 := by decide
    omega
  obtain ⟨T', h', cA, X', e', E, A, st⟩ := newP X hx hZ w eT hg hd hs e2 (cap := N) (by omega) hb hc hl
  refine ⟨T', h', X', e', E, ⟨_, A, by rw [sz_new, e1], fun k hk => ?_⟩, st⟩
  simp [newA, e1, hk, hdv]
theorem own_newJ (X : Stand p l e R s m args below meth c T locs cells slots) (hx : p.tables.exec = Jvm.exec) (hZ : Z.Warmed39 s.vm) {a0 : Array Value} (w : (Cond.arrayClass (newarray.typeOf .long)).before a0 Z = true) (eT : T.heap = h) {g : JFrame} (hg : g.method = m) (hd : decode c.code g.pc = .ok (.newarray .long, 2)) {n : Int32} {rest : List Value} (hs : g.stack = .int n :: rest)
    {N : Nat} (hn : n.toInt = (N : Int)) (hb : N * 8 ≤ 536870912) (hc : cells + 1 ≤ R.cells) (hl : slots + N ≤ R.slots) :
    ∃ T' h', Stand p l e R s m args below meth c T' locs (cells + 1) (slots + N) ∧ T'.heap = h' ∧ Ext h h' ∧ own_AJ Z h' h.size N (fun _ => 0) ∧
      ∀ target, Steps p.tables e below (T'.setTop { g with pc := g.pc + 2, stack := .ref h.size :: rest }) target → Steps p.tables e below (T.setTop g) target := by
  have e1 : n.toNatClampNeg = N := by
    show n.toInt.toNat = N
    omega
  have e2 : ¬ n < 0 := by
    rw [Int32.lt_iff_toInt_lt, hn]
    have z : (0 : Int32).toInt = 0 := by decide
    omega
  obtain ⟨T', h', cA, X', e', E, A, st⟩ := newP X hx hZ w eT hg hd hs e2 (cap := N) (by omega) hb hc hl
  refine ⟨T', h', X', e', E, ⟨_, A, by rw [sz_new, e1], fun k hk => ?_⟩, st⟩
  simp [newA, e1, hk, defaultValue, newarray.typeOf]
end OwnKit
theorem d1_0 : decode prog_92_method_4_code 0 = .ok (.iload_n 0, 1) := by decide +kernel
theorem d1_1 : decode prog_92_method_4_code 1 = .ok (.bipush 9, 2) := by decide +kernel
theorem d1_3 : decode prog_92_method_4_code 3 = .ok (.if_icmp .eq 51, 3) := by decide +kernel
theorem d1_6 : decode prog_92_method_4_code 6 = .ok (.iload_n 0, 1) := by decide +kernel
theorem d1_7 : decode prog_92_method_4_code 7 = .ok (.bipush 10, 2) := by decide +kernel
theorem d1_9 : decode prog_92_method_4_code 9 = .ok (.if_icmp .eq 45, 3) := by decide +kernel
theorem d1_12 : decode prog_92_method_4_code 12 = .ok (.iload_n 0, 1) := by decide +kernel
theorem d1_13 : decode prog_92_method_4_code 13 = .ok (.bipush 13, 2) := by decide +kernel
theorem d1_15 : decode prog_92_method_4_code 15 = .ok (.if_icmp .eq 39, 3) := by decide +kernel
theorem d1_18 : decode prog_92_method_4_code 18 = .ok (.iload_n 0, 1) := by decide +kernel
theorem d1_19 : decode prog_92_method_4_code 19 = .ok (.bipush 32, 2) := by decide +kernel
theorem d1_21 : decode prog_92_method_4_code 21 = .ok (.if_icmp .lt 9, 3) := by decide +kernel
theorem d1_24 : decode prog_92_method_4_code 24 = .ok (.iload_n 0, 1) := by decide +kernel
theorem d1_25 : decode prog_92_method_4_code 25 = .ok (.ldc 55, 2) := by decide +kernel
theorem d1_27 : decode prog_92_method_4_code 27 = .ok (.if_icmp .le 27, 3) := by decide +kernel
theorem d1_30 : decode prog_92_method_4_code 30 = .ok (.iload_n 0, 1) := by decide +kernel
theorem d1_31 : decode prog_92_method_4_code 31 = .ok (.ldc 56, 2) := by decide +kernel
theorem d1_33 : decode prog_92_method_4_code 33 = .ok (.if_icmp .lt 9, 3) := by decide +kernel
theorem d1_36 : decode prog_92_method_4_code 36 = .ok (.iload_n 0, 1) := by decide +kernel
theorem d1_37 : decode prog_92_method_4_code 37 = .ok (.ldc 57, 2) := by decide +kernel
theorem d1_39 : decode prog_92_method_4_code 39 = .ok (.if_icmp .le 15, 3) := by decide +kernel
theorem d1_42 : decode prog_92_method_4_code 42 = .ok (.iload_n 0, 1) := by decide +kernel
theorem d1_43 : decode prog_92_method_4_code 43 = .ok (.ldc 58, 2) := by decide +kernel
theorem d1_45 : decode prog_92_method_4_code 45 = .ok (.if_icmp .lt 13, 3) := by decide +kernel
theorem d1_48 : decode prog_92_method_4_code 48 = .ok (.iload_n 0, 1) := by decide +kernel
theorem d1_49 : decode prog_92_method_4_code 49 = .ok (.ldc 59, 2) := by decide +kernel
theorem d1_51 : decode prog_92_method_4_code 51 = .ok (.if_icmp .gt 7, 3) := by decide +kernel
theorem d1_54 : decode prog_92_method_4_code 54 = .ok (.iconst 1, 1) := by decide +kernel
theorem d1_55 : decode prog_92_method_4_code 55 = .ok (.goto 4, 3) := by decide +kernel
theorem d1_58 : decode prog_92_method_4_code 58 = .ok (.iconst 0, 1) := by decide +kernel
theorem d1_59 : decode prog_92_method_4_code 59 = .ok (.ireturn, 1) := by decide +kernel
theorem pn_1 : plainName "com/example/plumbline/plumbline/document/Xml" = true := by first | (simp [plainName, overriddenIn]; done) | decide +kernel
theorem ef_1 (m : MethodId) (p0 : Int32) : entryFrame m #[(.int p0)] 1 = mkF m 0 #[.val (.int p0)] [] := by first | (simp [entryFrame, mkF, argsToLocals, Value.category]; done) | rfl
def f1_59 (p0 : Int32) : Int32 := (1 : Int32)
def f1_54 (p0 : Int32) : Int32 := f1_59 p0
def f1_59b (p0 : Int32) : Int32 := (0 : Int32)
def f1_58 (p0 : Int32) : Int32 := f1_59b p0
def f1_42 (p0 : Int32) : Int32 := (if p0 < (65536 : Int32) then f1_58 p0 else (if (1114111 : Int32) < p0 then f1_58 p0 else f1_54 p0))
def f1_30 (p0 : Int32) : Int32 := (if p0 < (57344 : Int32) then f1_42 p0 else (if (65533 : Int32) < p0 then f1_42 p0 else f1_54 p0))
def f1_0 (p0 : Int32) : Int32 := (if p0 = (9 : Int32) then f1_54 p0 else (if p0 = (10 : Int32) then f1_54 p0 else (if p0 = (13 : Int32) then f1_54 p0 else (if p0 < (32 : Int32) then f1_30 p0 else (if (55295 : Int32) < p0 then f1_30 p0 else f1_54 p0)))))
def Q1 (Z : State) (p0 : Int32) (h0 : Heap) (n0 : Nat) (v : Option Value) (h : Heap) (L : List Loc) : Prop := v = some (.int (f1_0 p0)) ∧ Fr n0 L ∧ h = h0
set_option maxRecDepth 65536 in
set_option maxHeartbeats 40000000 in
theorem rm1 (l : Launch) (Z : State) (a0 : Array Value) (hw : ∀ d ∈ tables_1, d.before a0 Z = true) (ws : List Jvm.Cond) (p0 : Int32) (h0 : Heap) (n0 : Nat) :
    MetFree l (⟨"com/example/plumbline/plumbline/document/Xml", "isCharacter", "(I)Z"⟩ : MethodName) (head1 (Jvm.Cond.code (⟨"com/example/plumbline/plumbline/document/Xml", "isCharacter", "(I)Z"⟩ : MethodName) prog_92_method_4_code 1 (some .boolean) :: ws) ({ frames := 0, cells := 0, slots := 0, locals := 0 } : Room)) (fun a U => a = #[(.int p0)] ∧ Z.Warmed39 U.vm ∧ U.heap = h0) (fun _ _ _ _ _ => True) (fun _ U o U' => ∃ v L, o = .returned v ∧ (Q1 Z p0 h0 n0) v U'.heap L ∧ FrameEnd U o U' L ({ frames := 0, cells := 0, slots := 0, locals := 0 } : Room).cells ({ frames := 0, cells := 0, slots := 0, locals := 0 } : Room).slots) := by
  refine MetFree.of_bodySF (plainFor_of_name pn_1) hisR ?_
  intro p e s m args below meth c s₁ Bd hml0 hP hK
  obtain ⟨rfl, hZ, hh⟩ := hP
  have hx := Bd.exec
  have hby := Bd.bytes
  have hret := Bd.returns
  have hlk := BodyLoose.notSynchronized Bd
  have hml : c.maxLocals = 1 := hml0
  have hown : s.vm.findClass "com/example/plumbline/plumbline/document/Xml" = some m.cls := findClass_of_methodNamed Bd.named
  have hnm := (name_of_methodNamed Bd.named Bd.method).1
  have X0 : Stand p l e ({ frames := 0, cells := 0, slots := 0, locals := 0 } : Room) s m #[(.int p0)] below meth c s₁ [] 0 0 := Stand.of_body Bd
  have e0 : s₁.heap = h0 := by rw [← hh, Bd.state]; rfl
  have N0 := Fr.nil n0
  show own_Ends p e below s ({ frames := 0, cells := 0, slots := 0, locals := 0 } : Room).cells ({ frames := 0, cells := 0, slots := 0, locals := 0 } : Room).slots (Q1 Z p0 h0 n0) (s₁.setTop (entryFrame m #[(.int p0)] 1))
  refine own_cast (ef_1 m p0) ?_
  have B1_59 (hF : f1_0 p0 = f1_59 p0) : own_Ends p e below s ({ frames := 0, cells := 0, slots := 0, locals := 0 } : Room).cells ({ frames := 0, cells := 0, slots := 0, locals := 0 } : Room).slots (Q1 Z p0 h0 n0) (s₁.setTop (mkF m 59 #[.val (.int p0)] [(.int (1 : Int32))])) := by
    show own_Ends p e below s _ _ _ (s₁.setTop (mkF m 59 #[.val (.int p0)] [(.int (1 : Int32))]))
    exact own_retN X0 hx hlk (t := .boolean) hret (by simp) (hb hby d1_59) (w := (1 : Int32)) (by decide) ⟨congrArg (fun w => some (Value.int w)) (Eq.symm hF), N0, e0⟩ (by decide) (by decide)
  have B1_54 (hF : f1_0 p0 = f1_54 p0) : own_Ends p e below s ({ frames := 0, cells := 0, slots := 0, locals := 0 } : Room).cells ({ frames := 0, cells := 0, slots := 0, locals := 0 } : Room).slots (Q1 Z p0 h0 n0) (s₁.setTop (mkF m 54 #[.val (.int p0)] [])) := by
    show own_Ends p e below s _ _ _ (s₁.setTop (mkF m 54 #[.val (.int p0)] []))
    refine own_step (fun t k => XS.iconst X0.here hx rfl (hb hby d1_54) k) ?_
    show own_Ends p e below s _ _ _ (s₁.setTop (mkF m 55 #[.val (.int p0)] [(.int (1 : Int32))]))
    refine own_step (fun t k => XS.goto X0.here hx rfl (pc0 := 55) (pc' := 59) rfl (hb hby d1_55) (by decide) (by decide) k) ?_
    show own_Ends p e below s _ _ _ (s₁.setTop (mkF m 59 #[.val (.int p0)] [(.int (1 : Int32))]))
    exact B1_59 hF
  have B1_59b (hF : f1_0 p0 = f1_59b p0) : own_Ends p e below s ({ frames := 0, cells := 0, slots := 0, locals := 0 } : Room).cells ({ frames := 0, cells := 0, slots := 0, locals := 0 } : Room).slots (Q1 Z p0 h0 n0) (s₁.setTop (mkF m 59 #[.val (.int p0)] [(.int (0 : Int32))])) := by
    show own_Ends p e below s _ _ _ (s₁.setTop (mkF m 59 #[.val (.int p0)] [(.int (0 : Int32))]))
    exact own_retN X0 hx hlk (t := .boolean) hret (by simp) (hb hby d1_59) (w := (0 : Int32)) (by decide) ⟨congrArg (fun w => some (Value.int w)) (Eq.symm hF), N0, e0⟩ (by decide) (by decide)
  have B1_58 (hF : f1_0 p0 = f1_58 p0) : own_Ends p e below s ({ frames := 0, cells := 0, slots := 0, locals := 0 } : Room).cells ({ frames := 0, cells := 0, slots := 0, locals := 0 } : Room).slots (Q1 Z p0 h0 n0) (s₁.setTop (mkF m 58 #[.val (.int p0)] [])) := by
    show own_Ends p e below s _ _ _ (s₁.setTop (mkF m 58 #[.val (.int p0)] []))
    refine own_step (fun t k => XS.iconst X0.here hx rfl (hb hby d1_58) k) ?_
    show own_Ends p e below s _ _ _ (s₁.setTop (mkF m 59 #[.val (.int p0)] [(.int (0 : Int32))]))
    exact B1_59b hF
  have B1_42 (hF : f1_0 p0 = f1_42 p0) : own_Ends p e below s ({ frames := 0, cells := 0, slots := 0, locals := 0 } : Room).cells ({ frames := 0, cells := 0, slots := 0, locals := 0 } : Room).slots (Q1 Z p0 h0 n0) (s₁.setTop (mkF m 42 #[.val (.int p0)] [])) := by
    show own_Ends p e below s _ _ _ (s₁.setTop (mkF m 42 #[.val (.int p0)] []))
    refine own_step (fun t k => XS.iloadN X0.here hx rfl (hb hby d1_42) rfl k) ?_
    show own_Ends p e below s _ _ _ (s₁.setTop (mkF m 43 #[.val (.int p0)] [(.int p0)]))
    refine own_step (fun t k => X0.ldcInt hx hown (mvT hZ (hw _ (List.mem_of_getElem? (i := 18) rfl))) (g := (mkF m 43 #[.val (.int p0)] [(.int p0)])) rfl (hb hby d1_43) t k) ?_
    show own_Ends p e below s _ _ _ (s₁.setTop (mkF m 45 #[.val (.int p0)] [(.int (65536 : Int32)), (.int p0)]))
    by_cases hc45_6 : p0 < (65536 : Int32)
    · -- p0 < (65536 : Int32)
      refine own_step (fun t k => XS.icmpYes X0.here hx rfl (pc0 := 45) (pc' := 58) rfl (hb hby d1_45) rfl (tlt hc45_6).1 (by decide) (by decide) k) ?_
      show own_Ends p e below s _ _ _ (s₁.setTop (mkF m 58 #[.val (.int p0)] []))
      exact B1_58 (hF.trans (if_pos hc45_6))
    · -- not p0 < (65536 : Int32)
      refine own_step (fun t k => XS.icmpNo X0.here hx rfl (hb hby d1_45) rfl (flt hc45_6).1 k) ?_
      show own_Ends p e below s _ _ _ (s₁.setTop (mkF m 48 #[.val (.int p0)] []))
      refine own_step (fun t k => XS.iloadN X0.here hx rfl (hb hby d1_48) rfl k) ?_
      show own_Ends p e below s _ _ _ (s₁.setTop (mkF m 49 #[.val (.int p0)] [(.int p0)]))
      refine own_step (fun t k => X0.ldcInt hx hown (mvT hZ (hw _ (List.mem_of_getElem? (i := 25) rfl))) (g := (mkF m 49 #[.val (.int p0)] [(.int p0)])) rfl (hb hby d1_49) t k) ?_
      show own_Ends p e below s _ _ _ (s₁.setTop (mkF m 51 #[.val (.int p0)] [(.int (1114111 : Int32)), (.int p0)]))
      by_cases hc51_7 : (1114111 : Int32) < p0
      · -- (1114111 : Int32) < p0
        refine own_step (fun t k => XS.icmpYes X0.here hx rfl (pc0 := 51) (pc' := 58) rfl (hb hby d1_51) rfl (tlt hc51_7).2.2.1 (by decide) (by decide) k) ?_
        show own_Ends p e below s _ _ _ (s₁.setTop (mkF m 58 #[.val (.int p0)] []))
        exact B1_58 ((hF.trans (if_neg hc45_6)).trans (if_pos hc51_7))
      · -- not (1114111 : Int32) < p0
        refine own_step (fun t k => XS.icmpNo X0.here hx rfl (hb hby d1_51) rfl (flt hc51_7).2.2.1 k) ?_
        show own_Ends p e below s _ _ _ (s₁.setTop (mkF m 54 #[.val (.int p0)] []))
        exact B1_54 ((hF.trans (if_neg hc45_6)).trans (if_neg hc51_7))
  have B1_30 (hF : f1_0 p0 = f1_30 p0) : own_Ends p e below s ({ frames := 0, cells := 0, slots := 0, locals := 0 } : Room).cells ({ frames := 0, cells := 0, slots := 0, locals := 0 } : Room).slots (Q1 Z p0 h0 n0) (s₁.setTop (mkF m 30 #[.val (.int p0)] [])) := by
    show own_Ends p e below s _ _ _ (s₁.setTop (mkF m 30 #[.val (.int p0)] []))
    refine own_step (fun t k => XS.iloadN X0.here hx rfl (hb hby d1_30) rfl k) ?_
    show own_Ends p e below s _ _ _ (s₁.setTop (mkF m 31 #[.val (.int p0)] [(.int p0)]))
    refine own_step (fun t k => X0.ldcInt hx hown (mvT hZ (hw _ (List.mem_of_getElem? (i := 17) rfl))) (g := (mkF m 31 #[.val (.int p0)] [(.int p0)])) rfl (hb hby d1_31) t k) ?_
    show own_Ends p e below s _ _ _ (s₁.setTop (mkF m 33 #[.val (.int p0)] [(.int (57344 : Int32)), (.int p0)]))
    by_cases hc33_5 : p0 < (57344 : Int32)
    · -- p0 < (57344 : Int32)
      refine own_step (fun t k => XS.icmpYes X0.here hx rfl (pc0 := 33) (pc' := 42) rfl (hb hby d1_33) rfl (tlt hc33_5).1 (by decide) (by decide) k) ?_
      show own_Ends p e below s _ _ _ (s₁.setTop (mkF m 42 #[.val (.int p0)] []))
      exact B1_42 (hF.trans (if_pos hc33_5))
    · -- not p0 < (57344 : Int32)
      refine own_step (fun t k => XS.icmpNo X0.here hx rfl (hb hby d1_33) rfl (flt hc33_5).1 k) ?_
      show own_Ends p e below s _ _ _ (s₁.setTop (mkF m 36 #[.val (.int p0)] []))
      refine own_step (fun t k => XS.iloadN X0.here hx rfl (hb hby d1_36) rfl k) ?_
      show own_Ends p e below s _ _ _ (s₁.setTop (mkF m 37 #[.val (.int p0)] [(.int p0)]))
      refine own_step (fun t k => X0.ldcInt hx hown (mvT hZ (hw _ (List.mem_of_getElem? (i := 24) rfl))) (g := (mkF m 37 #[.val (.int p0)] [(.int p0)])) rfl (hb hby d1_37) t k) ?_
      show own_Ends p e below s _ _ _ (s₁.setTop (mkF m 39 #[.val (.int p0)] [(.int (65533 : Int32)), (.int p0)]))
      by_cases hc39_8 : (65533 : Int32) < p0
      · -- (65533 : Int32) < p0
        refine own_step (fun t k => XS.icmpNo X0.here hx rfl (hb hby d1_39) rfl (tlt hc39_8).2.2.2 k) ?_
        show own_Ends p e below s _ _ _ (s₁.setTop (mkF m 42 #[.val (.int p0)] []))
        exact B1_42 ((hF.trans (if_neg hc33_5)).trans (if_pos hc39_8))
      · -- not (65533 : Int32) < p0
        refine own_step (fun t k => XS.icmpYes X0.here hx rfl (pc0 := 39) (pc' := 54) rfl (hb hby d1_39) rfl (flt hc39_8).2.2.2 (by decide) (by decide) k) ?_
        show own_Ends p e below s _ _ _ (s₁.setTop (mkF m 54 #[.val (.int p0)] []))
        exact B1_54 ((hF.trans (if_neg hc33_5)).trans (if_neg hc39_8))
  show own_Ends p e below s _ _ _ (s₁.setTop (mkF m 0 #[.val (.int p0)] []))
  refine own_step (fun t k => XS.iloadN X0.here hx rfl (hb hby d1_0) rfl k) ?_
  show own_Ends p e below s _ _ _ (s₁.setTop (mkF m 1 #[.val (.int p0)] [(.int p0)]))
  refine own_step (fun t k => XS.bipush X0.here hx rfl (hb hby d1_1) k) ?_
  show own_Ends p e below s _ _ _ (s₁.setTop (mkF m 3 #[.val (.int p0)] [(.int (9 : Int32)), (.int p0)]))
  by_cases hc3_1 : p0 = (9 : Int32)
  · -- p0 = (9 : Int32)
    refine own_step (fun t k => XS.icmpYes X0.here hx rfl (pc0 := 3) (pc' := 54) rfl (hb hby d1_3) rfl (teq hc3_1).1 (by decide) (by decide) k) ?_
    show own_Ends p e below s _ _ _ (s₁.setTop (mkF m 54 #[.val (.int p0)] []))
    exact B1_54 ((show f1_0 p0 = _ from rfl).trans (if_pos hc3_1))
  · -- not p0 = (9 : Int32)
    refine own_step (fun t k => XS.icmpNo X0.here hx rfl (hb hby d1_3) rfl (feq hc3_1).1 k) ?_
    show own_Ends p e below s _ _ _ (s₁.setTop (mkF m 6 #[.val (.int p0)] []))
    refine own_step (fun t k => XS.iloadN X0.here hx rfl (hb hby d1_6) rfl k) ?_
    show own_Ends p e below s _ _ _ (s₁.setTop (mkF m 7 #[.val (.int p0)] [(.int p0)]))
    refine own_step (fun t k => XS.bipush X0.here hx rfl (hb hby d1_7) k) ?_
    show own_Ends p e below s _ _ _ (s₁.setTop (mkF m 9 #[.val (.int p0)] [(.int (10 : Int32)), (.int p0)]))
    by_cases hc9_2 : p0 = (10 : Int32)
    · -- p0 = (10 : Int32)
      refine own_step (fun t k => XS.icmpYes X0.here hx rfl (pc0 := 9) (pc' := 54) rfl (hb hby d1_9) rfl (teq hc9_2).1 (by decide) (by decide) k) ?_
      show own_Ends p e below s _ _ _ (s₁.setTop (mkF m 54 #[.val (.int p0)] []))
      exact B1_54 (((show f1_0 p0 = _ from rfl).trans (if_neg hc3_1)).trans (if_pos hc9_2))
    · -- not p0 = (10 : Int32)
      refine own_step (fun t k => XS.icmpNo X0.here hx rfl (hb hby d1_9) rfl (feq hc9_2).1 k) ?_
      show own_Ends p e below s _ _ _ (s₁.setTop (mkF m 12 #[.val (.int p0)] []))
      refine own_step (fun t k => XS.iloadN X0.here hx rfl (hb hby d1_12) rfl k) ?_
      show own_Ends p e below s _ _ _ (s₁.setTop (mkF m 13 #[.val (.int p0)] [(.int p0)]))
      refine own_step (fun t k => XS.bipush X0.here hx rfl (hb hby d1_13) k) ?_
      show own_Ends p e below s _ _ _ (s₁.setTop (mkF m 15 #[.val (.int p0)] [(.int (13 : Int32)), (.int p0)]))
      by_cases hc15_3 : p0 = (13 : Int32)
      · -- p0 = (13 : Int32)
        refine own_step (fun t k => XS.icmpYes X0.here hx rfl (pc0 := 15) (pc' := 54) rfl (hb hby d1_15) rfl (teq hc15_3).1 (by decide) (by decide) k) ?_
        show own_Ends p e below s _ _ _ (s₁.setTop (mkF m 54 #[.val (.int p0)] []))
        exact B1_54 ((((show f1_0 p0 = _ from rfl).trans (if_neg hc3_1)).trans (if_neg hc9_2)).trans (if_pos hc15_3))
      · -- not p0 = (13 : Int32)
        refine own_step (fun t k => XS.icmpNo X0.here hx rfl (hb hby d1_15) rfl (feq hc15_3).1 k) ?_
        show own_Ends p e below s _ _ _ (s₁.setTop (mkF m 18 #[.val (.int p0)] []))
        refine own_step (fun t k => XS.iloadN X0.here hx rfl (hb hby d1_18) rfl k) ?_
        show own_Ends p e below s _ _ _ (s₁.setTop (mkF m 19 #[.val (.int p0)] [(.int p0)]))
        refine own_step (fun t k => XS.bipush X0.here hx rfl (hb hby d1_19) k) ?_
        show own_Ends p e below s _ _ _ (s₁.setTop (mkF m 21 #[.val (.int p0)] [(.int (32 : Int32)), (.int p0)]))
        by_cases hc21_4 : p0 < (32 : Int32)
        · -- p0 < (32 : Int32)
          refine own_step (fun t k => XS.icmpYes X0.here hx rfl (pc0 := 21) (pc' := 30) rfl (hb hby d1_21) rfl (tlt hc21_4).1 (by decide) (by decide) k) ?_
          show own_Ends p e below s _ _ _ (s₁.setTop (mkF m 30 #[.val (.int p0)] []))
          exact B1_30 (((((show f1_0 p0 = _ from rfl).trans (if_neg hc3_1)).trans (if_neg hc9_2)).trans (if_neg hc15_3)).trans (if_pos hc21_4))
        · -- not p0 < (32 : Int32)
          refine own_step (fun t k => XS.icmpNo X0.here hx rfl (hb hby d1_21) rfl (flt hc21_4).1 k) ?_
          show own_Ends p e below s _ _ _ (s₁.setTop (mkF m 24 #[.val (.int p0)] []))
          refine own_step (fun t k => XS.iloadN X0.here hx rfl (hb hby d1_24) rfl k) ?_
          show own_Ends p e below s _ _ _ (s₁.setTop (mkF m 25 #[.val (.int p0)] [(.int p0)]))
          refine own_step (fun t k => X0.ldcInt hx hown (mvT hZ (hw _ (List.mem_of_getElem? (i := 23) rfl))) (g := (mkF m 25 #[.val (.int p0)] [(.int p0)])) rfl (hb hby d1_25) t k) ?_
          show own_Ends p e below s _ _ _ (s₁.setTop (mkF m 27 #[.val (.int p0)] [(.int (55295 : Int32)), (.int p0)]))
          by_cases hc27_9 : (55295 : Int32) < p0
          · -- (55295 : Int32) < p0
            refine own_step (fun t k => XS.icmpNo X0.here hx rfl (hb hby d1_27) rfl (tlt hc27_9).2.2.2 k) ?_
            show own_Ends p e below s _ _ _ (s₁.setTop (mkF m 30 #[.val (.int p0)] []))
            exact B1_30 ((((((show f1_0 p0 = _ from rfl).trans (if_neg hc3_1)).trans (if_neg hc9_2)).trans (if_neg hc15_3)).trans (if_neg hc21_4)).trans (if_pos hc27_9))
          · -- not (55295 : Int32) < p0
            refine own_step (fun t k => XS.icmpYes X0.here hx rfl (pc0 := 27) (pc' := 54) rfl (hb hby d1_27) rfl (flt hc27_9).2.2.2 (by decide) (by decide) k) ?_
            show own_Ends p e below s _ _ _ (s₁.setTop (mkF m 54 #[.val (.int p0)] []))
            exact B1_54 ((((((show f1_0 p0 = _ from rfl).trans (if_neg hc3_1)).trans (if_neg hc9_2)).trans (if_neg hc15_3)).trans (if_neg hc21_4)).trans (if_neg hc27_9))
theorem d2_0 : decode method_2_code 0 = .ok (.iload_n 0, 1) := by decide +kernel
theorem d2_1 : decode method_2_code 1 = .ok (.ifCond .lt 9, 3) := by decide +kernel
theorem d2_4 : decode method_2_code 4 = .ok (.iload_n 0, 1) := by decide +kernel
theorem d2_5 : decode method_2_code 5 = .ok (.ldc 7, 2) := by decide +kernel
theorem d2_7 : decode method_2_code 7 = .ok (.if_icmp .le 5, 3) := by decide +kernel
theorem d2_10 : decode method_2_code 10 = .ok (.iconst 0, 1) := by decide +kernel
theorem d2_11 : decode method_2_code 11 = .ok (.ireturn, 1) := by decide +kernel
theorem d2_12 : decode method_2_code 12 = .ok (.iload_n 0, 1) := by decide +kernel
theorem d2_13 : decode method_2_code 13 = .ok (.bipush 32, 2) := by decide +kernel
theorem d2_15 : decode method_2_code 15 = .ok (.if_icmp .ge 27, 3) := by decide +kernel
theorem d2_18 : decode method_2_code 18 = .ok (.iload_n 0, 1) := by decide +kernel
theorem d2_19 : decode method_2_code 19 = .ok (.bipush 9, 2) := by decide +kernel
theorem d2_21 : decode method_2_code 21 = .ok (.if_icmp .eq 15, 3) := by decide +kernel
theorem d2_24 : decode method_2_code 24 = .ok (.iload_n 0, 1) := by decide +kernel
theorem d2_25 : decode method_2_code 25 = .ok (.bipush 10, 2) := by decide +kernel
theorem d2_27 : decode method_2_code 27 = .ok (.if_icmp .eq 9, 3) := by decide +kernel
theorem d2_30 : decode method_2_code 30 = .ok (.iload_n 0, 1) := by decide +kernel
theorem d2_31 : decode method_2_code 31 = .ok (.bipush 13, 2) := by decide +kernel
theorem d2_33 : decode method_2_code 33 = .ok (.if_icmp .ne 7, 3) := by decide +kernel
theorem d2_36 : decode method_2_code 36 = .ok (.iconst 1, 1) := by decide +kernel
theorem d2_37 : decode method_2_code 37 = .ok (.goto 4, 3) := by decide +kernel
theorem d2_40 : decode method_2_code 40 = .ok (.iconst 0, 1) := by decide +kernel
theorem d2_41 : decode method_2_code 41 = .ok (.ireturn, 1) := by decide +kernel
theorem d2_42 : decode method_2_code 42 = .ok (.iload_n 0, 1) := by decide +kernel
theorem d2_43 : decode method_2_code 43 = .ok (.ldc 8, 2) := by decide +kernel
theorem d2_45 : decode method_2_code 45 = .ok (.if_icmp .lt 11, 3) := by decide +kernel
theorem d2_48 : decode method_2_code 48 = .ok (.iload_n 0, 1) := by decide +kernel
theorem d2_49 : decode method_2_code 49 = .ok (.ldc 9, 2) := by decide +kernel
theorem d2_51 : decode method_2_code 51 = .ok (.if_icmp .gt 5, 3) := by decide +kernel
theorem d2_54 : decode method_2_code 54 = .ok (.iconst 0, 1) := by decide +kernel
theorem d2_55 : decode method_2_code 55 = .ok (.ireturn, 1) := by decide +kernel
theorem d2_56 : decode method_2_code 56 = .ok (.iload_n 0, 1) := by decide +kernel
theorem d2_57 : decode method_2_code 57 = .ok (.ldc 10, 2) := by decide +kernel
theorem d2_59 : decode method_2_code 59 = .ok (.if_icmp .eq 13, 3) := by decide +kernel
theorem d2_62 : decode method_2_code 62 = .ok (.iload_n 0, 1) := by decide +kernel
theorem d2_63 : decode method_2_code 63 = .ok (.ldc 11, 2) := by decide +kernel
theorem d2_65 : decode method_2_code 65 = .ok (.if_icmp .eq 7, 3) := by decide +kernel
theorem d2_68 : decode method_2_code 68 = .ok (.iconst 1, 1) := by decide +kernel
theorem d2_69 : decode method_2_code 69 = .ok (.goto 4, 3) := by decide +kernel
theorem d2_72 : decode method_2_code 72 = .ok (.iconst 0, 1) := by decide +kernel
theorem d2_73 : decode method_2_code 73 = .ok (.ireturn, 1) := by decide +kernel
theorem pn_2 : plainName "com/example/plumbline/plumbline/document/XmlIsCharacterPinLaw" = true := by first | (simp [plainName, overriddenIn]; done) | decide +kernel
theorem ef_2 (m : MethodId) (p0 : Int32) : entryFrame m #[(.int p0)] 1 = mkF m 0 #[.val (.int p0)] [] := by first | (simp [entryFrame, mkF, argsToLocals, Value.category]; done) | rfl
def f2_10 (p0 : Int32) : Int32 := (0 : Int32)
def f2_41 (p0 : Int32) : Int32 := (1 : Int32)
def f2_36 (p0 : Int32) : Int32 := f2_41 p0
def f2_41b (p0 : Int32) : Int32 := (0 : Int32)
def f2_73 (p0 : Int32) : Int32 := (0 : Int32)
def f2_72 (p0 : Int32) : Int32 := f2_73 p0
def f2_73b (p0 : Int32) : Int32 := (1 : Int32)
def f2_56 (p0 : Int32) : Int32 := (if p0 = (65534 : Int32) then f2_72 p0 else (if p0 = (65535 : Int32) then f2_72 p0 else f2_73b p0))
def f2_0 (p0 : Int32) : Int32 := (if p0 < (0 : Int32) then f2_10 p0 else (if (1114111 : Int32) < p0 then f2_10 p0 else (if p0 < (32 : Int32) then (if p0 = (9 : Int32) then f2_36 p0 else (if p0 = (10 : Int32) then f2_36 p0 else (if p0 = (13 : Int32) then f2_36 p0 else f2_41b p0))) else (if p0 < (55296 : Int32) then f2_56 p0 else (if (57343 : Int32) < p0 then f2_56 p0 else (0 : Int32))))))
def Q2 (Z : State) (p0 : Int32) (h0 : Heap) (n0 : Nat) (v : Option Value) (h : Heap) (L : List Loc) : Prop := v = some (.int (f2_0 p0)) ∧ Fr n0 L ∧ h = h0
set_option maxRecDepth 65536 in
set_option maxHeartbeats 40000000 in
theorem rm2 (l : Launch) (Z : State) (a0 : Array Value) (hw : ∀ d ∈ tables_1, d.before a0 Z = true) (ws : List Jvm.Cond) (p0 : Int32) (h0 : Heap) (n0 : Nat) :
    MetFree l (⟨"com/example/plumbline/plumbline/document/XmlIsCharacterPinLaw", "spec", "(I)Z"⟩ : MethodName) (head1 (Jvm.Cond.code (⟨"com/example/plumbline/plumbline/document/XmlIsCharacterPinLaw", "spec", "(I)Z"⟩ : MethodName) method_2_code 1 (some .boolean) :: ws) ({ frames := 0, cells := 0, slots := 0, locals := 0 } : Room)) (fun a U => a = #[(.int p0)] ∧ Z.Warmed39 U.vm ∧ U.heap = h0) (fun _ _ _ _ _ => True) (fun _ U o U' => ∃ v L, o = .returned v ∧ (Q2 Z p0 h0 n0) v U'.heap L ∧ FrameEnd U o U' L ({ frames := 0, cells := 0, slots := 0, locals := 0 } : Room).cells ({ frames := 0, cells := 0, slots := 0, locals := 0 } : Room).slots) := by
  refine MetFree.of_bodySF (plainFor_of_name pn_2) hisR ?_
  intro p e s m args below meth c s₁ Bd hml0 hP hK
  obtain ⟨rfl, hZ, hh⟩ := hP
  have hx := Bd.exec
  have hby := Bd.bytes
  have hret := Bd.returns
  have hlk := BodyLoose.notSynchronized Bd
  have hml : c.maxLocals = 1 := hml0
  have hown : s.vm.findClass "com/example/plumbline/plumbline/document/XmlIsCharacterPinLaw" = some m.cls := findClass_of_methodNamed Bd.named
  have hnm := (name_of_methodNamed Bd.named Bd.method).1
  have X0 : Stand p l e ({ frames := 0, cells := 0, slots := 0, locals := 0 } : Room) s m #[(.int p0)] below meth c s₁ [] 0 0 := Stand.of_body Bd
  have e0 : s₁.heap = h0 := by rw [← hh, Bd.state]; rfl
  have N0 := Fr.nil n0
  show own_Ends p e below s ({ frames := 0, cells := 0, slots := 0, locals := 0 } : Room).cells ({ frames := 0, cells := 0, slots := 0, locals := 0 } : Room).slots (Q2 Z p0 h0 n0) (s₁.setTop (entryFrame m #[(.int p0)] 1))
  refine own_cast (ef_2 m p0) ?_
  have B2_10 (hF : f2_0 p0 = f2_10 p0) : own_Ends p e below s ({ frames := 0, cells := 0, slots := 0, locals := 0 } : Room).cells ({ frames := 0, cells := 0, slots := 0, locals := 0 } : Room).slots (Q2 Z p0 h0 n0) (s₁.setTop (mkF m 10 #[.val (.int p0)] [])) := by
    show own_Ends p e below s _ _ _ (s₁.setTop (mkF m 10 #[.val (.int p0)] []))
    refine own_step (fun t k => XS.iconst X0.here hx rfl (hb hby d2_10) k) ?_
    show own_Ends p e below s _ _ _ (s₁.setTop (mkF m 11 #[.val (.int p0)] [(.int (0 : Int32))]))
    exact own_retN X0 hx hlk (t := .boolean) hret (by simp) (hb hby d2_11) (w := (0 : Int32)) (by decide) ⟨congrArg (fun w => some (Value.int w)) (Eq.symm hF), N0, e0⟩ (by decide) (by decide)
  have B2_41 (hF : f2_0 p0 = f2_41 p0) : own_Ends p e below s ({ frames := 0, cells := 0, slots := 0, locals := 0 } : Room).cells ({ frames := 0, cells := 0, slots := 0, locals := 0 } : Room).slots (Q2 Z p0 h0 n0) (s₁.setTop (mkF m 41 #[.val (.int p0)] [(.int (1 : Int32))])) := by
    show own_Ends p e below s _ _ _ (s₁.setTop (mkF m 41 #[.val (.int p0)] [(.int (1 : Int32))]))
    exact own_retN X0 hx hlk (t := .boolean) hret (by simp) (hb hby d2_41) (w := (1 : Int32)) (by decide) ⟨congrArg (fun w => some (Value.int w)) (Eq.symm hF), N0, e0⟩ (by decide) (by decide)
  have B2_36 (hF : f2_0 p0 = f2_36 p0) : own_Ends p e below s ({ frames := 0, cells := 0, slots := 0, locals := 0 } : Room).cells ({ frames := 0, cells := 0, slots := 0, locals := 0 } : Room).slots (Q2 Z p0 h0 n0) (s₁.setTop (mkF m 36 #[.val (.int p0)] [])) := by
    show own_Ends p e below s _ _ _ (s₁.setTop (mkF m 36 #[.val (.int p0)] []))
    refine own_step (fun t k => XS.iconst X0.here hx rfl (hb hby d2_36) k) ?_
    show own_Ends p e below s _ _ _ (s₁.setTop (mkF m 37 #[.val (.int p0)] [(.int (1 : Int32))]))
    refine own_step (fun t k => XS.goto X0.here hx rfl (pc0 := 37) (pc' := 41) rfl (hb hby d2_37) (by decide) (by decide) k) ?_
    show own_Ends p e below s _ _ _ (s₁.setTop (mkF m 41 #[.val (.int p0)] [(.int (1 : Int32))]))
    exact B2_41 hF
  have B2_41b (hF : f2_0 p0 = f2_41b p0) : own_Ends p e below s ({ frames := 0, cells := 0, slots := 0, locals := 0 } : Room).cells ({ frames := 0, cells := 0, slots := 0, locals := 0 } : Room).slots (Q2 Z p0 h0 n0) (s₁.setTop (mkF m 41 #[.val (.int p0)] [(.int (0 : Int32))])) := by
    show own_Ends p e below s _ _ _ (s₁.setTop (mkF m 41 #[.val (.int p0)] [(.int (0 : Int32))]))
    exact own_retN X0 hx hlk (t := .boolean) hret (by simp) (hb hby d2_41) (w := (0 : Int32)) (by decide) ⟨congrArg (fun w => some (Value.int w)) (Eq.symm hF), N0, e0⟩ (by decide) (by decide)
  have B2_73 (hF : f2_0 p0 = f2_73 p0) : own_Ends p e below s ({ frames := 0, cells := 0, slots := 0, locals := 0 } : Room).cells ({ frames := 0, cells := 0, slots := 0, locals := 0 } : Room).slots (Q2 Z p0 h0 n0) (s₁.setTop (mkF m 73 #[.val (.int p0)] [(.int (0 : Int32))])) := by
    show own_Ends p e below s _ _ _ (s₁.setTop (mkF m 73 #[.val (.int p0)] [(.int (0 : Int32))]))
    exact own_retN X0 hx hlk (t := .boolean) hret (by simp) (hb hby d2_73) (w := (0 : Int32)) (by decide) ⟨congrArg (fun w => some (Value.int w)) (Eq.symm hF), N0, e0⟩ (by decide) (by decide)
  have B2_72 (hF : f2_0 p0 = f2_72 p0) : own_Ends p e below s ({ frames := 0, cells := 0, slots := 0, locals := 0 } : Room).cells ({ frames := 0, cells := 0, slots := 0, locals := 0 } : Room).slots (Q2 Z p0 h0 n0) (s₁.setTop (mkF m 72 #[.val (.int p0)] [])) := by
    show own_Ends p e below s _ _ _ (s₁.setTop (mkF m 72 #[.val (.int p0)] []))
    refine own_step (fun t k => XS.iconst X0.here hx rfl (hb hby d2_72) k) ?_
    show own_Ends p e below s _ _ _ (s₁.setTop (mkF m 73 #[.val (.int p0)] [(.int (0 : Int32))]))
    exact B2_73 hF
  have B2_73b (hF : f2_0 p0 = f2_73b p0) : own_Ends p e below s ({ frames := 0, cells := 0, slots := 0, locals := 0 } : Room).cells ({ frames := 0, cells := 0, slots := 0, locals := 0 } : Room).slots (Q2 Z p0 h0 n0) (s₁.setTop (mkF m 73 #[.val (.int p0)] [(.int (1 : Int32))])) := by
    show own_Ends p e below s _ _ _ (s₁.setTop (mkF m 73 #[.val (.int p0)] [(.int (1 : Int32))]))
    exact own_retN X0 hx hlk (t := .boolean) hret (by simp) (hb hby d2_73) (w := (1 : Int32)) (by decide) ⟨congrArg (fun w => some (Value.int w)) (Eq.symm hF), N0, e0⟩ (by decide) (by decide)
  have B2_56 (hF : f2_0 p0 = f2_56 p0) : own_Ends p e below s ({ frames := 0, cells := 0, slots := 0, locals := 0 } : Room).cells ({ frames := 0, cells := 0, slots := 0, locals := 0 } : Room).slots (Q2 Z p0 h0 n0) (s₁.setTop (mkF m 56 #[.val (.int p0)] [])) := by
    show own_Ends p e below s _ _ _ (s₁.setTop (mkF m 56 #[.val (.int p0)] []))
    refine own_step (fun t k => XS.iloadN X0.here hx rfl (hb hby d2_56) rfl k) ?_
    show own_Ends p e below s _ _ _ (s₁.setTop (mkF m 57 #[.val (.int p0)] [(.int p0)]))
    refine own_step (fun t k => X0.ldcInt hx hown (mvT hZ (hw _ (List.mem_of_getElem? (i := 6) rfl))) (g := (mkF m 57 #[.val (.int p0)] [(.int p0)])) rfl (hb hby d2_57) t k) ?_
    show own_Ends p e below s _ _ _ (s₁.setTop (mkF m 59 #[.val (.int p0)] [(.int (65534 : Int32)), (.int p0)]))
    by_cases hc59_8 : p0 = (65534 : Int32)
    · -- p0 = (65534 : Int32)
      refine own_step (fun t k => XS.icmpYes X0.here hx rfl (pc0 := 59) (pc' := 72) rfl (hb hby d2_59) rfl (teq hc59_8).1 (by decide) (by decide) k) ?_
      show own_Ends p e below s _ _ _ (s₁.setTop (mkF m 72 #[.val (.int p0)] []))
      exact B2_72 (hF.trans (if_pos hc59_8))
    · -- not p0 = (65534 : Int32)
      refine own_step (fun t k => XS.icmpNo X0.here hx rfl (hb hby d2_59) rfl (feq hc59_8).1 k) ?_
      show own_Ends p e below s _ _ _ (s₁.setTop (mkF m 62 #[.val (.int p0)] []))
      refine own_step (fun t k => XS.iloadN X0.here hx rfl (hb hby d2_62) rfl k) ?_
      show own_Ends p e below s _ _ _ (s₁.setTop (mkF m 63 #[.val (.int p0)] [(.int p0)]))
      refine own_step (fun t k => X0.ldcInt hx hown (mvT hZ (hw _ (List.mem_of_getElem? (i := 7) rfl))) (g := (mkF m 63 #[.val (.int p0)] [(.int p0)])) rfl (hb hby d2_63) t k) ?_
      show own_Ends p e below s _ _ _ (s₁.setTop (mkF m 65 #[.val (.int p0)] [(.int (65535 : Int32)), (.int p0)]))
      by_cases hc65_9 : p0 = (65535 : Int32)
      · -- p0 = (65535 : Int32)
        refine own_step (fun t k => XS.icmpYes X0.here hx rfl (pc0 := 65) (pc' := 72) rfl (hb hby d2_65) rfl (teq hc65_9).1 (by decide) (by decide) k) ?_
        show own_Ends p e below s _ _ _ (s₁.setTop (mkF m 72 #[.val (.int p0)] []))
        exact B2_72 ((hF.trans (if_neg hc59_8)).trans (if_pos hc65_9))
      · -- not p0 = (65535 : Int32)
        refine own_step (fun t k => XS.icmpNo X0.here hx rfl (hb hby d2_65) rfl (feq hc65_9).1 k) ?_
        show own_Ends p e below s _ _ _ (s₁.setTop (mkF m 68 #[.val (.int p0)] []))
        refine own_step (fun t k => XS.iconst X0.here hx rfl (hb hby d2_68) k) ?_
        show own_Ends p e below s _ _ _ (s₁.setTop (mkF m 69 #[.val (.int p0)] [(.int (1 : Int32))]))
        refine own_step (fun t k => XS.goto X0.here hx rfl (pc0 := 69) (pc' := 73) rfl (hb hby d2_69) (by decide) (by decide) k) ?_
        show own_Ends p e below s _ _ _ (s₁.setTop (mkF m 73 #[.val (.int p0)] [(.int (1 : Int32))]))
        exact B2_73b ((hF.trans (if_neg hc59_8)).trans (if_neg hc65_9))
  show own_Ends p e below s _ _ _ (s₁.setTop (mkF m 0 #[.val (.int p0)] []))
  refine own_step (fun t k => XS.iloadN X0.here hx rfl (hb hby d2_0) rfl k) ?_
  show own_Ends p e below s _ _ _ (s₁.setTop (mkF m 1 #[.val (.int p0)] [(.int p0)]))
  by_cases hc1_1 : p0 < (0 : Int32)
  · -- p0 < (0 : Int32)
    refine own_step (fun t k => XS.ifYes X0.here hx rfl (pc0 := 1) (pc' := 10) rfl (hb hby d2_1) rfl ((if0 _ _).trans (tlt hc1_1).1) (by decide) (by decide) k) ?_
    show own_Ends p e below s _ _ _ (s₁.setTop (mkF m 10 #[.val (.int p0)] []))
    exact B2_10 ((show f2_0 p0 = _ from rfl).trans (if_pos hc1_1))
  · -- not p0 < (0 : Int32)
    refine own_step (fun t k => XS.ifNo X0.here hx rfl (hb hby d2_1) rfl ((if0 _ _).trans (flt hc1_1).1) k) ?_
    show own_Ends p e below s _ _ _ (s₁.setTop (mkF m 4 #[.val (.int p0)] []))
    refine own_step (fun t k => XS.iloadN X0.here hx rfl (hb hby d2_4) rfl k) ?_
    show own_Ends p e below s _ _ _ (s₁.setTop (mkF m 5 #[.val (.int p0)] [(.int p0)]))
    refine own_step (fun t k => X0.ldcInt hx hown (mvT hZ (hw _ (List.mem_of_getElem? (i := 9) rfl))) (g := (mkF m 5 #[.val (.int p0)] [(.int p0)])) rfl (hb hby d2_5) t k) ?_
    show own_Ends p e below s _ _ _ (s₁.setTop (mkF m 7 #[.val (.int p0)] [(.int (1114111 : Int32)), (.int p0)]))
    by_cases hc7_2 : (1114111 : Int32) < p0
    · -- (1114111 : Int32) < p0
      refine own_step (fun t k => XS.icmpNo X0.here hx rfl (hb hby d2_7) rfl (tlt hc7_2).2.2.2 k) ?_
      show own_Ends p e below s _ _ _ (s₁.setTop (mkF m 10 #[.val (.int p0)] []))
      exact B2_10 (((show f2_0 p0 = _ from rfl).trans (if_neg hc1_1)).trans (if_pos hc7_2))
    · -- not (1114111 : Int32) < p0
      refine own_step (fun t k => XS.icmpYes X0.here hx rfl (pc0 := 7) (pc' := 12) rfl (hb hby d2_7) rfl (flt hc7_2).2.2.2 (by decide) (by decide) k) ?_
      show own_Ends p e below s _ _ _ (s₁.setTop (mkF m 12 #[.val (.int p0)] []))
      refine own_step (fun t k => XS.iloadN X0.here hx rfl (hb hby d2_12) rfl k) ?_
      show own_Ends p e below s _ _ _ (s₁.setTop (mkF m 13 #[.val (.int p0)] [(.int p0)]))
      refine own_step (fun t k => XS.bipush X0.here hx rfl (hb hby d2_13) k) ?_
      show own_Ends p e below s _ _ _ (s₁.setTop (mkF m 15 #[.val (.int p0)] [(.int (32 : Int32)), (.int p0)]))
      by_cases hc15_3 : p0 < (32 : Int32)
      · -- p0 < (32 : Int32)
        refine own_step (fun t k => XS.icmpNo X0.here hx rfl (hb hby d2_15) rfl (tlt hc15_3).2.1 k) ?_
        show own_Ends p e below s _ _ _ (s₁.setTop (mkF m 18 #[.val (.int p0)] []))
        refine own_step (fun t k => XS.iloadN X0.here hx rfl (hb hby d2_18) rfl k) ?_
        show own_Ends p e below s _ _ _ (s₁.setTop (mkF m 19 #[.val (.int p0)] [(.int p0)]))
        refine own_step (fun t k => XS.bipush X0.here hx rfl (hb hby d2_19) k) ?_
        show own_Ends p e below s _ _ _ (s₁.setTop (mkF m 21 #[.val (.int p0)] [(.int (9 : Int32)), (.int p0)]))
        by_cases hc21_4 : p0 = (9 : Int32)
        · -- p0 = (9 : Int32)
          refine own_step (fun t k => XS.icmpYes X0.here hx rfl (pc0 := 21) (pc' := 36) rfl (hb hby d2_21) rfl (teq hc21_4).1 (by decide) (by decide) k) ?_
          show own_Ends p e below s _ _ _ (s₁.setTop (mkF m 36 #[.val (.int p0)] []))
          exact B2_36 (((((show f2_0 p0 = _ from rfl).trans (if_neg hc1_1)).trans (if_neg hc7_2)).trans (if_pos hc15_3)).trans (if_pos hc21_4))
        · -- not p0 = (9 : Int32)
          refine own_step (fun t k => XS.icmpNo X0.here hx rfl (hb hby d2_21) rfl (feq hc21_4).1 k) ?_
          show own_Ends p e below s _ _ _ (s₁.setTop (mkF m 24 #[.val (.int p0)] []))
          refine own_step (fun t k => XS.iloadN X0.here hx rfl (hb hby d2_24) rfl k) ?_
          show own_Ends p e below s _ _ _ (s₁.setTop (mkF m 25 #[.val (.int p0)] [(.int p0)]))
          refine own_step (fun t k => XS.bipush X0.here hx rfl (hb hby d2_25) k) ?_
          show own_Ends p e below s _ _ _ (s₁.setTop (mkF m 27 #[.val (.int p0)] [(.int (10 : Int32)), (.int p0)]))
          by_cases hc27_5 : p0 = (10 : Int32)
          · -- p0 = (10 : Int32)
            refine own_step (fun t k => XS.icmpYes X0.here hx rfl (pc0 := 27) (pc' := 36) rfl (hb hby d2_27) rfl (teq hc27_5).1 (by decide) (by decide) k) ?_
            show own_Ends p e below s _ _ _ (s₁.setTop (mkF m 36 #[.val (.int p0)] []))
            exact B2_36 ((((((show f2_0 p0 = _ from rfl).trans (if_neg hc1_1)).trans (if_neg hc7_2)).trans (if_pos hc15_3)).trans (if_neg hc21_4)).trans (if_pos hc27_5))
          · -- not p0 = (10 : Int32)
            refine own_step (fun t k => XS.icmpNo X0.here hx rfl (hb hby d2_27) rfl (feq hc27_5).1 k) ?_
            show own_Ends p e below s _ _ _ (s₁.setTop (mkF m 30 #[.val (.int p0)] []))
            refine own_step (fun t k => XS.iloadN X0.here hx rfl (hb hby d2_30) rfl k) ?_
            show own_Ends p e below s _ _ _ (s₁.setTop (mkF m 31 #[.val (.int p0)] [(.int p0)]))
            refine own_step (fun t k => XS.bipush X0.here hx rfl (hb hby d2_31) k) ?_
            show own_Ends p e below s _ _ _ (s₁.setTop (mkF m 33 #[.val (.int p0)] [(.int (13 : Int32)), (.int p0)]))
            by_cases hc33_6 : p0 = (13 : Int32)
            · -- p0 = (13 : Int32)
              refine own_step (fun t k => XS.icmpNo X0.here hx rfl (hb hby d2_33) rfl (teq hc33_6).2 k) ?_
              show own_Ends p e below s _ _ _ (s₁.setTop (mkF m 36 #[.val (.int p0)] []))
              exact B2_36 (((((((show f2_0 p0 = _ from rfl).trans (if_neg hc1_1)).trans (if_neg hc7_2)).trans (if_pos hc15_3)).trans (if_neg hc21_4)).trans (if_neg hc27_5)).trans (if_pos hc33_6))
            · -- not p0 = (13 : Int32)
              refine own_step (fun t k => XS.icmpYes X0.here hx rfl (pc0 := 33) (pc' := 40) rfl (hb hby d2_33) rfl (feq hc33_6).2 (by decide) (by decide) k) ?_
              show own_Ends p e below s _ _ _ (s₁.setTop (mkF m 40 #[.val (.int p0)] []))
              refine own_step (fun t k => XS.iconst X0.here hx rfl (hb hby d2_40) k) ?_
              show own_Ends p e below s _ _ _ (s₁.setTop (mkF m 41 #[.val (.int p0)] [(.int (0 : Int32))]))
              exact B2_41b (((((((show f2_0 p0 = _ from rfl).trans (if_neg hc1_1)).trans (if_neg hc7_2)).trans (if_pos hc15_3)).trans (if_neg hc21_4)).trans (if_neg hc27_5)).trans (if_neg hc33_6))
      · -- not p0 < (32 : Int32)
        refine own_step (fun t k => XS.icmpYes X0.here hx rfl (pc0 := 15) (pc' := 42) rfl (hb hby d2_15) rfl (flt hc15_3).2.1 (by decide) (by decide) k) ?_
        show own_Ends p e below s _ _ _ (s₁.setTop (mkF m 42 #[.val (.int p0)] []))
        refine own_step (fun t k => XS.iloadN X0.here hx rfl (hb hby d2_42) rfl k) ?_
        show own_Ends p e below s _ _ _ (s₁.setTop (mkF m 43 #[.val (.int p0)] [(.int p0)]))
        refine own_step (fun t k => X0.ldcInt hx hown (mvT hZ (hw _ (List.mem_of_getElem? (i := 2) rfl))) (g := (mkF m 43 #[.val (.int p0)] [(.int p0)])) rfl (hb hby d2_43) t k) ?_
        show own_Ends p e below s _ _ _ (s₁.setTop (mkF m 45 #[.val (.int p0)] [(.int (55296 : Int32)), (.int p0)]))
        by_cases hc45_7 : p0 < (55296 : Int32)
        · -- p0 < (55296 : Int32)
          refine own_step (fun t k => XS.icmpYes X0.here hx rfl (pc0 := 45) (pc' := 56) rfl (hb hby d2_45) rfl (tlt hc45_7).1 (by decide) (by decide) k) ?_
          show own_Ends p e below s _ _ _ (s₁.setTop (mkF m 56 #[.val (.int p0)] []))
          exact B2_56 (((((show f2_0 p0 = _ from rfl).trans (if_neg hc1_1)).trans (if_neg hc7_2)).trans (if_neg hc15_3)).trans (if_pos hc45_7))
        · -- not p0 < (55296 : Int32)
          refine own_step (fun t k => XS.icmpNo X0.here hx rfl (hb hby d2_45) rfl (flt hc45_7).1 k) ?_
          show own_Ends p e below s _ _ _ (s₁.setTop (mkF m 48 #[.val (.int p0)] []))
          refine own_step (fun t k => XS.iloadN X0.here hx rfl (hb hby d2_48) rfl k) ?_
          show own_Ends p e below s _ _ _ (s₁.setTop (mkF m 49 #[.val (.int p0)] [(.int p0)]))
          refine own_step (fun t k => X0.ldcInt hx hown (mvT hZ (hw _ (List.mem_of_getElem? (i := 3) rfl))) (g := (mkF m 49 #[.val (.int p0)] [(.int p0)])) rfl (hb hby d2_49) t k) ?_
          show own_Ends p e below s _ _ _ (s₁.setTop (mkF m 51 #[.val (.int p0)] [(.int (57343 : Int32)), (.int p0)]))
          by_cases hc51_10 : (57343 : Int32) < p0
          · -- (57343 : Int32) < p0
            refine own_step (fun t k => XS.icmpYes X0.here hx rfl (pc0 := 51) (pc' := 56) rfl (hb hby d2_51) rfl (tlt hc51_10).2.2.1 (by decide) (by decide) k) ?_
            show own_Ends p e below s _ _ _ (s₁.setTop (mkF m 56 #[.val (.int p0)] []))
            exact B2_56 ((((((show f2_0 p0 = _ from rfl).trans (if_neg hc1_1)).trans (if_neg hc7_2)).trans (if_neg hc15_3)).trans (if_neg hc45_7)).trans (if_pos hc51_10))
          · -- not (57343 : Int32) < p0
            refine own_step (fun t k => XS.icmpNo X0.here hx rfl (hb hby d2_51) rfl (flt hc51_10).2.2.1 k) ?_
            show own_Ends p e below s _ _ _ (s₁.setTop (mkF m 54 #[.val (.int p0)] []))
            refine own_step (fun t k => XS.iconst X0.here hx rfl (hb hby d2_54) k) ?_
            show own_Ends p e below s _ _ _ (s₁.setTop (mkF m 55 #[.val (.int p0)] [(.int (0 : Int32))]))
            exact own_retN X0 hx hlk (t := .boolean) hret (by simp) (hb hby d2_55) (w := (0 : Int32)) (by decide) ⟨congrArg (fun w => some (Value.int w)) (Eq.symm ((((((show f2_0 p0 = _ from rfl).trans (if_neg hc1_1)).trans (if_neg hc7_2)).trans (if_neg hc15_3)).trans (if_neg hc45_7)).trans (if_neg hc51_10))), N0, e0⟩ (by decide) (by decide)
def own_i (k : Int32) : Nat := ((k &&& (2147483647 : Int32)) % (17 : Int32)).toInt.toNat
theorem own_rem (k : Int32) : 0 ≤ ((k &&& (2147483647 : Int32)) % (17 : Int32)).toInt ∧ ((k &&& (2147483647 : Int32)) % (17 : Int32)).toInt < 17 := by
  have e1 := c_mask k 2147483647 31 (by decide) (by decide)
  have e2 := (c_irem (k &&& (2147483647 : Int32)) (17 : Int32) 17 (by decide)).1
  omega
theorem own_hi (k : Int32) : ((k &&& (2147483647 : Int32)) % (17 : Int32)).toInt = (own_i k : Int) := by
  have := own_rem k
  unfold own_i
  omega
theorem own_lt (k : Int32) : own_i k < 17 := by
  have := own_rem k
  unfold own_i
  omega
theorem own_same (c : Int32) : f1_0 c = f2_0 c := by
  simp only [f1_59, f1_54, f1_59b, f1_58, f1_42, f1_30, f1_0, f2_10, f2_41, f2_36, f2_41b, f2_73, f2_72, f2_73b, f2_56, f2_0]
  repeat' split
  all_goals first | rfl | (exfalso; simp only [Int32.lt_iff_toInt_lt, ← Int32.toInt_inj, Int32.reduceToInt] at *; omega)
theorem pn_0 : plainName "com/example/plumbline/plumbline/document/XmlIsCharacterPinLaw" = true := by first | (simp [plainName, overriddenIn]; done) | decide +kernel
theorem ef_0 (m : MethodId) (p0 : Int32) (p1 : Int32) (p2 : Int32) : entryFrame m #[(.int p0), (.int p1), (.int p2)] maxLocals = mkF m 0 #[.val (.int p0), .val (.int p1), .val (.int p2), .unset, .unset, .unset, .unset, .unset] [] := by first | (simp [entryFrame, mkF, argsToLocals, Value.category, maxLocals]; done) | rfl
theorem pd0_0 : parseMethodDescriptor "(I)Z" = some ⟨[.int], some .boolean⟩ := by decide +kernel
set_option maxRecDepth 65536 in
set_option maxHeartbeats 40000000 in
theorem rm0 (l : Launch) (Z : State) (a0 : Array Value) (hw : ∀ d ∈ tables_1, d.before a0 Z = true) (ws : List Jvm.Cond) (p0 : Int32) (p1 : Int32) (p2 : Int32) (h0 : Heap) (n0 : Nat) (Z0 : n0 ≤ h0.size) :
    MetFree l x (head1 (Jvm.Cond.code x code maxLocals ret :: ws) room_1) (fun a U => a = #[(.int p0), (.int p1), (.int p2)] ∧ Z.Warmed39 U.vm ∧ U.heap = h0) (fun _ _ _ _ _ => True) (fun _ U o U' => ∃ v L, o = .returned v ∧ (fun v h L => v = some (.int 1) ∧ Fr n0 L) v U'.heap L ∧ FrameEnd U o U' L 16 128) := by
  refine MetFree.of_bodySF (plainFor_of_name pn_0) hisR ?_
  intro p e s m args below meth c s₁ Bd hml0 hP hK
  obtain ⟨rfl, hZ, hh⟩ := hP
  have hx := Bd.exec
  have hby := Bd.bytes
  have hret := Bd.returns
  have hlk := BodyLoose.notSynchronized Bd
  have hml : c.maxLocals = 8 := hml0
  have hown : s.vm.findClass "com/example/plumbline/plumbline/document/XmlIsCharacterPinLaw" = some m.cls := findClass_of_methodNamed Bd.named
  have hnm := (name_of_methodNamed Bd.named Bd.method).1
  have X0 : Stand p l e room_1 s m #[(.int p0), (.int p1), (.int p2)] below meth c s₁ [] 0 0 := Stand.of_body Bd
  have e0 : s₁.heap = h0 := by rw [← hh, Bd.state]; rfl
  have N0 := Fr.nil n0
  show own_Ends p e below s 16 128 (fun v h L => v = some (.int 1) ∧ Fr n0 L) (s₁.setTop (entryFrame m #[(.int p0), (.int p1), (.int p2)] maxLocals))
  refine own_cast (ef_0 m p0 p1 p2) ?_
  show own_Ends p e below s _ _ _ (s₁.setTop (mkF m 0 #[.val (.int p0), .val (.int p1), .val (.int p2), .unset, .unset, .unset, .unset, .unset] []))
  refine own_step (fun t k => XS.bipush X0.here hx rfl (hb hby at_0) k) ?_
  show own_Ends p e below s _ _ _ (s₁.setTop (mkF m 2 #[.val (.int p0), .val (.int p1), .val (.int p2), .unset, .unset, .unset, .unset, .unset] [(.int (17 : Int32))]))
  obtain ⟨T1, h1, X1, e1, E1, A1, st1⟩ := own_newI X0 hx hZ (hw _ (List.mem_of_getElem? (i := 0) rfl)) e0 (g := (mkF m 2 #[.val (.int p0), .val (.int p1), .val (.int p2), .unset, .unset, .unset, .unset, .unset] [(.int (17 : Int32))])) rfl (hb hby at_2) rfl (N := 17) (by decide) (by decide) (by decide) (by decide) rfl
  obtain ⟨b1, g1⟩ : ∃ z, z = h0.size := ⟨_, rfl⟩
  rw [← g1] at A1 st1
  have gn_b1 : n0 ≤ b1 := Nat.le_trans Z0 (Nat.le_of_eq g1.symm)
  have Z1 : n0 ≤ h1.size := Nat.le_trans Z0 E1.1
  refine own_step st1 ?_
  show own_Ends p e below s _ _ _ (T1.setTop (mkF m 4 #[.val (.int p0), .val (.int p1), .val (.int p2), .unset, .unset, .unset, .unset, .unset] [(.ref b1)]))
  refine own_step (fun t k => XS.dup X1.here hx rfl (hb hby at_4) rfl rfl k) ?_
  show own_Ends p e below s _ _ _ (T1.setTop (mkF m 5 #[.val (.int p0), .val (.int p1), .val (.int p2), .unset, .unset, .unset, .unset, .unset] [(.ref b1), (.ref b1)]))
  refine own_step (fun t k => XS.iconst X1.here hx rfl (hb hby at_5) k) ?_
  show own_Ends p e below s _ _ _ (T1.setTop (mkF m 6 #[.val (.int p0), .val (.int p1), .val (.int p2), .unset, .unset, .unset, .unset, .unset] [(.int (0 : Int32)), (.ref b1), (.ref b1)]))
  refine own_step (fun t k => XS.iconst X1.here hx rfl (hb hby at_6) k) ?_
  show own_Ends p e below s _ _ _ (T1.setTop (mkF m 7 #[.val (.int p0), .val (.int p1), .val (.int p2), .unset, .unset, .unset, .unset, .unset] [(.int (0 : Int32)), (.int (0 : Int32)), (.ref b1), (.ref b1)]))
  obtain ⟨T2, h2, X2, e2, W2, A2, st2⟩ := own_stI X1 hx hZ e1 A1 0 (by decide) (by decide) (g := (mkF m 7 #[.val (.int p0), .val (.int p1), .val (.int p2), .unset, .unset, .unset, .unset, .unset] [(.int (0 : Int32)), (.int (0 : Int32)), (.ref b1), (.ref b1)])) rfl rfl (hb hby at_7)
  refine own_step st2 ?_
  have N2 := Fr.snoc X2 N0 gn_b1
  have Z2 : n0 ≤ h2.size := by rw [W2.size]; exact Z1
  show own_Ends p e below s _ _ _ (T2.setTop (mkF m 8 #[.val (.int p0), .val (.int p1), .val (.int p2), .unset, .unset, .unset, .unset, .unset] [(.ref b1)]))
  refine own_step (fun t k => XS.dup X2.here hx rfl (hb hby at_8) rfl rfl k) ?_
  show own_Ends p e below s _ _ _ (T2.setTop (mkF m 9 #[.val (.int p0), .val (.int p1), .val (.int p2), .unset, .unset, .unset, .unset, .unset] [(.ref b1), (.ref b1)]))
  refine own_step (fun t k => XS.iconst X2.here hx rfl (hb hby at_9) k) ?_
  show own_Ends p e below s _ _ _ (T2.setTop (mkF m 10 #[.val (.int p0), .val (.int p1), .val (.int p2), .unset, .unset, .unset, .unset, .unset] [(.int (1 : Int32)), (.ref b1), (.ref b1)]))
  refine own_step (fun t k => XS.bipush X2.here hx rfl (hb hby at_10) k) ?_
  show own_Ends p e below s _ _ _ (T2.setTop (mkF m 12 #[.val (.int p0), .val (.int p1), .val (.int p2), .unset, .unset, .unset, .unset, .unset] [(.int (9 : Int32)), (.int (1 : Int32)), (.ref b1), (.ref b1)]))
  obtain ⟨T3, h3, X3, e3, W3, A3, st3⟩ := own_stI X2 hx hZ e2 A2 1 (by decide) (by decide) (g := (mkF m 12 #[.val (.int p0), .val (.int p1), .val (.int p2), .unset, .unset, .unset, .unset, .unset] [(.int (9 : Int32)), (.int (1 : Int32)), (.ref b1), (.ref b1)])) rfl rfl (hb hby at_12)
  refine own_step st3 ?_
  have N3 := Fr.snoc X3 N2 gn_b1
  have Z3 : n0 ≤ h3.size := by rw [W3.size]; exact Z2
  show own_Ends p e below s _ _ _ (T3.setTop (mkF m 13 #[.val (.int p0), .val (.int p1), .val (.int p2), .unset, .unset, .unset, .unset, .unset] [(.ref b1)]))
  refine own_step (fun t k => XS.dup X3.here hx rfl (hb hby at_13) rfl rfl k) ?_
  show own_Ends p e below s _ _ _ (T3.setTop (mkF m 14 #[.val (.int p0), .val (.int p1), .val (.int p2), .unset, .unset, .unset, .unset, .unset] [(.ref b1), (.ref b1)]))
  refine own_step (fun t k => XS.iconst X3.here hx rfl (hb hby at_14) k) ?_
  show own_Ends p e below s _ _ _ (T3.setTop (mkF m 15 #[.val (.int p0), .val (.int p1), .val (.int p2), .unset, .unset, .unset, .unset, .unset] [(.int (2 : Int32)), (.ref b1), (.ref b1)]))
  refine own_step (fun t k => XS.bipush X3.here hx rfl (hb hby at_15) k) ?_
  show own_Ends p e below s _ _ _ (T3.setTop (mkF m 17 #[.val (.int p0), .val (.int p1), .val (.int p2), .unset, .unset, .unset, .unset, .unset] [(.int (10 : Int32)), (.int (2 : Int32)), (.ref b1), (.ref b1)]))
  obtain ⟨T4, h4, X4, e4, W4, A4, st4⟩ := own_stI X3 hx hZ e3 A3 2 (by decide) (by decide) (g := (mkF m 17 #[.val (.int p0), .val (.int p1), .val (.int p2), .unset, .unset, .unset, .unset, .unset] [(.int (10 : Int32)), (.int (2 : Int32)), (.ref b1), (.ref b1)])) rfl rfl (hb hby at_17)
  refine own_step st4 ?_
  have N4 := Fr.snoc X4 N3 gn_b1
  have Z4 : n0 ≤ h4.size := by rw [W4.size]; exact Z3
  show own_Ends p e below s _ _ _ (T4.setTop (mkF m 18 #[.val (.int p0), .val (.int p1), .val (.int p2), .unset, .unset, .unset, .unset, .unset] [(.ref b1)]))
  refine own_step (fun t k => XS.dup X4.here hx rfl (hb hby at_18) rfl rfl k) ?_
  show own_Ends p e below s _ _ _ (T4.setTop (mkF m 19 #[.val (.int p0), .val (.int p1), .val (.int p2), .unset, .unset, .unset, .unset, .unset] [(.ref b1), (.ref b1)]))
  refine own_step (fun t k => XS.iconst X4.here hx rfl (hb hby at_19) k) ?_
  show own_Ends p e below s _ _ _ (T4.setTop (mkF m 20 #[.val (.int p0), .val (.int p1), .val (.int p2), .unset, .unset, .unset, .unset, .unset] [(.int (3 : Int32)), (.ref b1), (.ref b1)]))
  refine own_step (fun t k => XS.bipush X4.here hx rfl (hb hby at_20) k) ?_
  show own_Ends p e below s _ _ _ (T4.setTop (mkF m 22 #[.val (.int p0), .val (.int p1), .val (.int p2), .unset, .unset, .unset, .unset, .unset] [(.int (13 : Int32)), (.int (3 : Int32)), (.ref b1), (.ref b1)]))
  obtain ⟨T5, h5, X5, e5, W5, A5, st5⟩ := own_stI X4 hx hZ e4 A4 3 (by decide) (by decide) (g := (mkF m 22 #[.val (.int p0), .val (.int p1), .val (.int p2), .unset, .unset, .unset, .unset, .unset] [(.int (13 : Int32)), (.int (3 : Int32)), (.ref b1), (.ref b1)])) rfl rfl (hb hby at_22)
  refine own_step st5 ?_
  have N5 := Fr.snoc X5 N4 gn_b1
  have Z5 : n0 ≤ h5.size := by rw [W5.size]; exact Z4
  show own_Ends p e below s _ _ _ (T5.setTop (mkF m 23 #[.val (.int p0), .val (.int p1), .val (.int p2), .unset, .unset, .unset, .unset, .unset] [(.ref b1)]))
  refine own_step (fun t k => XS.dup X5.here hx rfl (hb hby at_23) rfl rfl k) ?_
  show own_Ends p e below s _ _ _ (T5.setTop (mkF m 24 #[.val (.int p0), .val (.int p1), .val (.int p2), .unset, .unset, .unset, .unset, .unset] [(.ref b1), (.ref b1)]))
  refine own_step (fun t k => XS.iconst X5.here hx rfl (hb hby at_24) k) ?_
  show own_Ends p e below s _ _ _ (T5.setTop (mkF m 25 #[.val (.int p0), .val (.int p1), .val (.int p2), .unset, .unset, .unset, .unset, .unset] [(.int (4 : Int32)), (.ref b1), (.ref b1)]))
  refine own_step (fun t k => XS.bipush X5.here hx rfl (hb hby at_25) k) ?_
  show own_Ends p e below s _ _ _ (T5.setTop (mkF m 27 #[.val (.int p0), .val (.int p1), .val (.int p2), .unset, .unset, .unset, .unset, .unset] [(.int (32 : Int32)), (.int (4 : Int32)), (.ref b1), (.ref b1)]))
  obtain ⟨T6, h6, X6, e6, W6, A6, st6⟩ := own_stI X5 hx hZ e5 A5 4 (by decide) (by decide) (g := (mkF m 27 #[.val (.int p0), .val (.int p1), .val (.int p2), .unset, .unset, .unset, .unset, .unset] [(.int (32 : Int32)), (.int (4 : Int32)), (.ref b1), (.ref b1)])) rfl rfl (hb hby at_27)
  refine own_step st6 ?_
  have N6 := Fr.snoc X6 N5 gn_b1
  have Z6 : n0 ≤ h6.size := by rw [W6.size]; exact Z5
  show own_Ends p e below s _ _ _ (T6.setTop (mkF m 28 #[.val (.int p0), .val (.int p1), .val (.int p2), .unset, .unset, .unset, .unset, .unset] [(.ref b1)]))
  refine own_step (fun t k => XS.dup X6.here hx rfl (hb hby at_28) rfl rfl k) ?_
  show own_Ends p e below s _ _ _ (T6.setTop (mkF m 29 #[.val (.int p0), .val (.int p1), .val (.int p2), .unset, .unset, .unset, .unset, .unset] [(.ref b1), (.ref b1)]))
  refine own_step (fun t k => XS.iconst X6.here hx rfl (hb hby at_29) k) ?_
  show own_Ends p e below s _ _ _ (T6.setTop (mkF m 30 #[.val (.int p0), .val (.int p1), .val (.int p2), .unset, .unset, .unset, .unset, .unset] [(.int (5 : Int32)), (.ref b1), (.ref b1)]))
  refine own_step (fun t k => X6.ldcInt hx hown (mvT hZ (hw _ (List.mem_of_getElem? (i := 1) rfl))) (g := (mkF m 30 #[.val (.int p0), .val (.int p1), .val (.int p2), .unset, .unset, .unset, .unset, .unset] [(.int (5 : Int32)), (.ref b1), (.ref b1)])) rfl (hb hby at_30) t k) ?_
  show own_Ends p e below s _ _ _ (T6.setTop (mkF m 32 #[.val (.int p0), .val (.int p1), .val (.int p2), .unset, .unset, .unset, .unset, .unset] [(.int (55295 : Int32)), (.int (5 : Int32)), (.ref b1), (.ref b1)]))
  obtain ⟨T7, h7, X7, e7, W7, A7, st7⟩ := own_stI X6 hx hZ e6 A6 5 (by decide) (by decide) (g := (mkF m 32 #[.val (.int p0), .val (.int p1), .val (.int p2), .unset, .unset, .unset, .unset, .unset] [(.int (55295 : Int32)), (.int (5 : Int32)), (.ref b1), (.ref b1)])) rfl rfl (hb hby at_32)
  refine own_step st7 ?_
  have N7 := Fr.snoc X7 N6 gn_b1
  have Z7 : n0 ≤ h7.size := by rw [W7.size]; exact Z6
  show own_Ends p e below s _ _ _ (T7.setTop (mkF m 33 #[.val (.int p0), .val (.int p1), .val (.int p2), .unset, .unset, .unset, .unset, .unset] [(.ref b1)]))
  refine own_step (fun t k => XS.dup X7.here hx rfl (hb hby at_33) rfl rfl k) ?_
  show own_Ends p e below s _ _ _ (T7.setTop (mkF m 34 #[.val (.int p0), .val (.int p1), .val (.int p2), .unset, .unset, .unset, .unset, .unset] [(.ref b1), (.ref b1)]))
  refine own_step (fun t k => XS.bipush X7.here hx rfl (hb hby at_34) k) ?_
  show own_Ends p e below s _ _ _ (T7.setTop (mkF m 36 #[.val (.int p0), .val (.int p1), .val (.int p2), .unset, .unset, .unset, .unset, .unset] [(.int (6 : Int32)), (.ref b1), (.ref b1)]))
  refine own_step (fun t k => X7.ldcInt hx hown (mvT hZ (hw _ (List.mem_of_getElem? (i := 2) rfl))) (g := (mkF m 36 #[.val (.int p0), .val (.int p1), .val (.int p2), .unset, .unset, .unset, .unset, .unset] [(.int (6 : Int32)), (.ref b1), (.ref b1)])) rfl (hb hby at_36) t k) ?_
  show own_Ends p e below s _ _ _ (T7.setTop (mkF m 38 #[.val (.int p0), .val (.int p1), .val (.int p2), .unset, .unset, .unset, .unset, .unset] [(.int (55296 : Int32)), (.int (6 : Int32)), (.ref b1), (.ref b1)]))
  obtain ⟨T8, h8, X8, e8, W8, A8, st8⟩ := own_stI X7 hx hZ e7 A7 6 (by decide) (by decide) (g := (mkF m 38 #[.val (.int p0), .val (.int p1), .val (.int p2), .unset, .unset, .unset, .unset, .unset] [(.int (55296 : Int32)), (.int (6 : Int32)), (.ref b1), (.ref b1)])) rfl rfl (hb hby at_38)
  refine own_step st8 ?_
  have N8 := Fr.snoc X8 N7 gn_b1
  have Z8 : n0 ≤ h8.size := by rw [W8.size]; exact Z7
  show own_Ends p e below s _ _ _ (T8.setTop (mkF m 39 #[.val (.int p0), .val (.int p1), .val (.int p2), .unset, .unset, .unset, .unset, .unset] [(.ref b1)]))
  refine own_step (fun t k => XS.dup X8.here hx rfl (hb hby at_39) rfl rfl k) ?_
  show own_Ends p e below s _ _ _ (T8.setTop (mkF m 40 #[.val (.int p0), .val (.int p1), .val (.int p2), .unset, .unset, .unset, .unset, .unset] [(.ref b1), (.ref b1)]))
  refine own_step (fun t k => XS.bipush X8.here hx rfl (hb hby at_40) k) ?_
  show own_Ends p e below s _ _ _ (T8.setTop (mkF m 42 #[.val (.int p0), .val (.int p1), .val (.int p2), .unset, .unset, .unset, .unset, .unset] [(.int (7 : Int32)), (.ref b1), (.ref b1)]))
  refine own_step (fun t k => X8.ldcInt hx hown (mvT hZ (hw _ (List.mem_of_getElem? (i := 3) rfl))) (g := (mkF m 42 #[.val (.int p0), .val (.int p1), .val (.int p2), .unset, .unset, .unset, .unset, .unset] [(.int (7 : Int32)), (.ref b1), (.ref b1)])) rfl (hb hby at_42) t k) ?_
  show own_Ends p e below s _ _ _ (T8.setTop (mkF m 44 #[.val (.int p0), .val (.int p1), .val (.int p2), .unset, .unset, .unset, .unset, .unset] [(.int (57343 : Int32)), (.int (7 : Int32)), (.ref b1), (.ref b1)]))
  obtain ⟨T9, h9, X9, e9, W9, A9, st9⟩ := own_stI X8 hx hZ e8 A8 7 (by decide) (by decide) (g := (mkF m 44 #[.val (.int p0), .val (.int p1), .val (.int p2), .unset, .unset, .unset, .unset, .unset] [(.int (57343 : Int32)), (.int (7 : Int32)), (.ref b1), (.ref b1)])) rfl rfl (hb hby at_44)
  refine own_step st9 ?_
  have N9 := Fr.snoc X9 N8 gn_b1
  have Z9 : n0 ≤ h9.size := by rw [W9.size]; exact Z8
  show own_Ends p e below s _ _ _ (T9.setTop (mkF m 45 #[.val (.int p0), .val (.int p1), .val (.int p2), .unset, .unset, .unset, .unset, .unset] [(.ref b1)]))
  refine own_step (fun t k => XS.dup X9.here hx rfl (hb hby at_45) rfl rfl k) ?_
  show own_Ends p e below s _ _ _ (T9.setTop (mkF m 46 #[.val (.int p0), .val (.int p1), .val (.int p2), .unset, .unset, .unset, .unset, .unset] [(.ref b1), (.ref b1)]))
  refine own_step (fun t k => XS.bipush X9.here hx rfl (hb hby at_46) k) ?_
  show own_Ends p e below s _ _ _ (T9.setTop (mkF m 48 #[.val (.int p0), .val (.int p1), .val (.int p2), .unset, .unset, .unset, .unset, .unset] [(.int (8 : Int32)), (.ref b1), (.ref b1)]))
  refine own_step (fun t k => X9.ldcInt hx hown (mvT hZ (hw _ (List.mem_of_getElem? (i := 4) rfl))) (g := (mkF m 48 #[.val (.int p0), .val (.int p1), .val (.int p2), .unset, .unset, .unset, .unset, .unset] [(.int (8 : Int32)), (.ref b1), (.ref b1)])) rfl (hb hby at_48) t k) ?_
  show own_Ends p e below s _ _ _ (T9.setTop (mkF m 50 #[.val (.int p0), .val (.int p1), .val (.int p2), .unset, .unset, .unset, .unset, .unset] [(.int (57344 : Int32)), (.int (8 : Int32)), (.ref b1), (.ref b1)]))
  obtain ⟨T10, h10, X10, e10, W10, A10, st10⟩ := own_stI X9 hx hZ e9 A9 8 (by decide) (by decide) (g := (mkF m 50 #[.val (.int p0), .val (.int p1), .val (.int p2), .unset, .unset, .unset, .unset, .unset] [(.int (57344 : Int32)), (.int (8 : Int32)), (.ref b1), (.ref b1)])) rfl rfl (hb hby at_50)
  refine own_step st10 ?_
  have N10 := Fr.snoc X10 N9 gn_b1
  have Z10 : n0 ≤ h10.size := by rw [W10.size]; exact Z9
  show own_Ends p e below s _ _ _ (T10.setTop (mkF m 51 #[.val (.int p0), .val (.int p1), .val (.int p2), .unset, .unset, .unset, .unset, .unset] [(.ref b1)]))
  refine own_step (fun t k => XS.dup X10.here hx rfl (hb hby at_51) rfl rfl k) ?_
  show own_Ends p e below s _ _ _ (T10.setTop (mkF m 52 #[.val (.int p0), .val (.int p1), .val (.int p2), .unset, .unset, .unset, .unset, .unset] [(.ref b1), (.ref b1)]))
  refine own_step (fun t k => XS.bipush X10.here hx rfl (hb hby at_52) k) ?_
  show own_Ends p e below s _ _ _ (T10.setTop (mkF m 54 #[.val (.int p0), .val (.int p1), .val (.int p2), .unset, .unset, .unset, .unset, .unset] [(.int (9 : Int32)), (.ref b1), (.ref b1)]))
  refine own_step (fun t k => X10.ldcInt hx hown (mvT hZ (hw _ (List.mem_of_getElem? (i := 5) rfl))) (g := (mkF m 54 #[.val (.int p0), .val (.int p1), .val (.int p2), .unset, .unset, .unset, .unset, .unset] [(.int (9 : Int32)), (.ref b1), (.ref b1)])) rfl (hb hby at_54) t k) ?_
  show own_Ends p e below s _ _ _ (T10.setTop (mkF m 56 #[.val (.int p0), .val (.int p1), .val (.int p2), .unset, .unset, .unset, .unset, .unset] [(.int (65533 : Int32)), (.int (9 : Int32)), (.ref b1), (.ref b1)]))
  obtain ⟨T11, h11, X11, e11, W11, A11, st11⟩ := own_stI X10 hx hZ e10 A10 9 (by decide) (by decide) (g := (mkF m 56 #[.val (.int p0), .val (.int p1), .val (.int p2), .unset, .unset, .unset, .unset, .unset] [(.int (65533 : Int32)), (.int (9 : Int32)), (.ref b1), (.ref b1)])) rfl rfl (hb hby at_56)
  refine own_step st11 ?_
  have N11 := Fr.snoc X11 N10 gn_b1
  have Z11 : n0 ≤ h11.size := by rw [W11.size]; exact Z10
  show own_Ends p e below s _ _ _ (T11.setTop (mkF m 57 #[.val (.int p0), .val (.int p1), .val (.int p2), .unset, .unset, .unset, .unset, .unset] [(.ref b1)]))
  refine own_step (fun t k => XS.dup X11.here hx rfl (hb hby at_57) rfl rfl k) ?_
  show own_Ends p e below s _ _ _ (T11.setTop (mkF m 58 #[.val (.int p0), .val (.int p1), .val (.int p2), .unset, .unset, .unset, .unset, .unset] [(.ref b1), (.ref b1)]))
  refine own_step (fun t k => XS.bipush X11.here hx rfl (hb hby at_58) k) ?_
  show own_Ends p e below s _ _ _ (T11.setTop (mkF m 60 #[.val (.int p0), .val (.int p1), .val (.int p2), .unset, .unset, .unset, .unset, .unset] [(.int (10 : Int32)), (.ref b1), (.ref b1)]))
  refine own_step (fun t k => X11.ldcInt hx hown (mvT hZ (hw _ (List.mem_of_getElem? (i := 6) rfl))) (g := (mkF m 60 #[.val (.int p0), .val (.int p1), .val (.int p2), .unset, .unset, .unset, .unset, .unset] [(.int (10 : Int32)), (.ref b1), (.ref b1)])) rfl (hb hby at_60) t k) ?_
  show own_Ends p e below s _ _ _ (T11.setTop (mkF m 62 #[.val (.int p0), .val (.int p1), .val (.int p2), .unset, .unset, .unset, .unset, .unset] [(.int (65534 : Int32)), (.int (10 : Int32)), (.ref b1), (.ref b1)]))
  obtain ⟨T12, h12, X12, e12, W12, A12, st12⟩ := own_stI X11 hx hZ e11 A11 10 (by decide) (by decide) (g := (mkF m 62 #[.val (.int p0), .val (.int p1), .val (.int p2), .unset, .unset, .unset, .unset, .unset] [(.int (65534 : Int32)), (.int (10 : Int32)), (.ref b1), (.ref b1)])) rfl rfl (hb hby at_62)
  refine own_step st12 ?_
  have N12 := Fr.snoc X12 N11 gn_b1
  have Z12 : n0 ≤ h12.size := by rw [W12.size]; exact Z11
  show own_Ends p e below s _ _ _ (T12.setTop (mkF m 63 #[.val (.int p0), .val (.int p1), .val (.int p2), .unset, .unset, .unset, .unset, .unset] [(.ref b1)]))
  refine own_step (fun t k => XS.dup X12.here hx rfl (hb hby at_63) rfl rfl k) ?_
  show own_Ends p e below s _ _ _ (T12.setTop (mkF m 64 #[.val (.int p0), .val (.int p1), .val (.int p2), .unset, .unset, .unset, .unset, .unset] [(.ref b1), (.ref b1)]))
  refine own_step (fun t k => XS.bipush X12.here hx rfl (hb hby at_64) k) ?_
  show own_Ends p e below s _ _ _ (T12.setTop (mkF m 66 #[.val (.int p0), .val (.int p1), .val (.int p2), .unset, .unset, .unset, .unset, .unset] [(.int (11 : Int32)), (.ref b1), (.ref b1)]))
  refine own_step (fun t k => X12.ldcInt hx hown (mvT hZ (hw _ (List.mem_of_getElem? (i := 7) rfl))) (g := (mkF m 66 #[.val (.int p0), .val (.int p1), .val (.int p2), .unset, .unset, .unset, .unset, .unset] [(.int (11 : Int32)), (.ref b1), (.ref b1)])) rfl (hb hby at_66) t k) ?_
  show own_Ends p e below s _ _ _ (T12.setTop (mkF m 68 #[.val (.int p0), .val (.int p1), .val (.int p2), .unset, .unset, .unset, .unset, .unset] [(.int (65535 : Int32)), (.int (11 : Int32)), (.ref b1), (.ref b1)]))
  obtain ⟨T13, h13, X13, e13, W13, A13, st13⟩ := own_stI X12 hx hZ e12 A12 11 (by decide) (by decide) (g := (mkF m 68 #[.val (.int p0), .val (.int p1), .val (.int p2), .unset, .unset, .unset, .unset, .unset] [(.int (65535 : Int32)), (.int (11 : Int32)), (.ref b1), (.ref b1)])) rfl rfl (hb hby at_68)
  refine own_step st13 ?_
  have N13 := Fr.snoc X13 N12 gn_b1
  have Z13 : n0 ≤ h13.size := by rw [W13.size]; exact Z12
  show own_Ends p e below s _ _ _ (T13.setTop (mkF m 69 #[.val (.int p0), .val (.int p1), .val (.int p2), .unset, .unset, .unset, .unset, .unset] [(.ref b1)]))
  refine own_step (fun t k => XS.dup X13.here hx rfl (hb hby at_69) rfl rfl k) ?_
  show own_Ends p e below s _ _ _ (T13.setTop (mkF m 70 #[.val (.int p0), .val (.int p1), .val (.int p2), .unset, .unset, .unset, .unset, .unset] [(.ref b1), (.ref b1)]))
  refine own_step (fun t k => XS.bipush X13.here hx rfl (hb hby at_70) k) ?_
  show own_Ends p e below s _ _ _ (T13.setTop (mkF m 72 #[.val (.int p0), .val (.int p1), .val (.int p2), .unset, .unset, .unset, .unset, .unset] [(.int (12 : Int32)), (.ref b1), (.ref b1)]))
  refine own_step (fun t k => X13.ldcInt hx hown (mvT hZ (hw _ (List.mem_of_getElem? (i := 8) rfl))) (g := (mkF m 72 #[.val (.int p0), .val (.int p1), .val (.int p2), .unset, .unset, .unset, .unset, .unset] [(.int (12 : Int32)), (.ref b1), (.ref b1)])) rfl (hb hby at_72) t k) ?_
  show own_Ends p e below s _ _ _ (T13.setTop (mkF m 74 #[.val (.int p0), .val (.int p1), .val (.int p2), .unset, .unset, .unset, .unset, .unset] [(.int (65536 : Int32)), (.int (12 : Int32)), (.ref b1), (.ref b1)]))
  obtain ⟨T14, h14, X14, e14, W14, A14, st14⟩ := own_stI X13 hx hZ e13 A13 12 (by decide) (by decide) (g := (mkF m 74 #[.val (.int p0), .val (.int p1), .val (.int p2), .unset, .unset, .unset, .unset, .unset] [(.int (65536 : Int32)), (.int (12 : Int32)), (.ref b1), (.ref b1)])) rfl rfl (hb hby at_74)
  refine own_step st14 ?_
  have N14 := Fr.snoc X14 N13 gn_b1
  have Z14 : n0 ≤ h14.size := by rw [W14.size]; exact Z13
  show own_Ends p e below s _ _ _ (T14.setTop (mkF m 75 #[.val (.int p0), .val (.int p1), .val (.int p2), .unset, .unset, .unset, .unset, .unset] [(.ref b1)]))
  refine own_step (fun t k => XS.dup X14.here hx rfl (hb hby at_75) rfl rfl k) ?_
  show own_Ends p e below s _ _ _ (T14.setTop (mkF m 76 #[.val (.int p0), .val (.int p1), .val (.int p2), .unset, .unset, .unset, .unset, .unset] [(.ref b1), (.ref b1)]))
  refine own_step (fun t k => XS.bipush X14.here hx rfl (hb hby at_76) k) ?_
  show own_Ends p e below s _ _ _ (T14.setTop (mkF m 78 #[.val (.int p0), .val (.int p1), .val (.int p2), .unset, .unset, .unset, .unset, .unset] [(.int (13 : Int32)), (.ref b1), (.ref b1)]))
  refine own_step (fun t k => X14.ldcInt hx hown (mvT hZ (hw _ (List.mem_of_getElem? (i := 9) rfl))) (g := (mkF m 78 #[.val (.int p0), .val (.int p1), .val (.int p2), .unset, .unset, .unset, .unset, .unset] [(.int (13 : Int32)), (.ref b1), (.ref b1)])) rfl (hb hby at_78) t k) ?_
  show own_Ends p e below s _ _ _ (T14.setTop (mkF m 80 #[.val (.int p0), .val (.int p1), .val (.int p2), .unset, .unset, .unset, .unset, .unset] [(.int (1114111 : Int32)), (.int (13 : Int32)), (.ref b1), (.ref b1)]))
  obtain ⟨T15, h15, X15, e15, W15, A15, st15⟩ := own_stI X14 hx hZ e14 A14 13 (by decide) (by decide) (g := (mkF m 80 #[.val (.int p0), .val (.int p1), .val (.int p2), .unset, .unset, .unset, .unset, .unset] [(.int (1114111 : Int32)), (.int (13 : Int32)), (.ref b1), (.ref b1)])) rfl rfl (hb hby at_80)
  refine own_step st15 ?_
  have N15 := Fr.snoc X15 N14 gn_b1
  have Z15 : n0 ≤ h15.size := by rw [W15.size]; exact Z14
  show own_Ends p e below s _ _ _ (T15.setTop (mkF m 81 #[.val (.int p0), .val (.int p1), .val (.int p2), .unset, .unset, .unset, .unset, .unset] [(.ref b1)]))
  refine own_step (fun t k => XS.dup X15.here hx rfl (hb hby at_81) rfl rfl k) ?_
  show own_Ends p e below s _ _ _ (T15.setTop (mkF m 82 #[.val (.int p0), .val (.int p1), .val (.int p2), .unset, .unset, .unset, .unset, .unset] [(.ref b1), (.ref b1)]))
  refine own_step (fun t k => XS.bipush X15.here hx rfl (hb hby at_82) k) ?_
  show own_Ends p e below s _ _ _ (T15.setTop (mkF m 84 #[.val (.int p0), .val (.int p1), .val (.int p2), .unset, .unset, .unset, .unset, .unset] [(.int (14 : Int32)), (.ref b1), (.ref b1)]))
  refine own_step (fun t k => X15.ldcInt hx hown (mvT hZ (hw _ (List.mem_of_getElem? (i := 10) rfl))) (g := (mkF m 84 #[.val (.int p0), .val (.int p1), .val (.int p2), .unset, .unset, .unset, .unset, .unset] [(.int (14 : Int32)), (.ref b1), (.ref b1)])) rfl (hb hby at_84) t k) ?_
  show own_Ends p e below s _ _ _ (T15.setTop (mkF m 86 #[.val (.int p0), .val (.int p1), .val (.int p2), .unset, .unset, .unset, .unset, .unset] [(.int (1114112 : Int32)), (.int (14 : Int32)), (.ref b1), (.ref b1)]))
  obtain ⟨T16, h16, X16, e16, W16, A16, st16⟩ := own_stI X15 hx hZ e15 A15 14 (by decide) (by decide) (g := (mkF m 86 #[.val (.int p0), .val (.int p1), .val (.int p2), .unset, .unset, .unset, .unset, .unset] [(.int (1114112 : Int32)), (.int (14 : Int32)), (.ref b1), (.ref b1)])) rfl rfl (hb hby at_86)
  refine own_step st16 ?_
  have N16 := Fr.snoc X16 N15 gn_b1
  have Z16 : n0 ≤ h16.size := by rw [W16.size]; exact Z15
  show own_Ends p e below s _ _ _ (T16.setTop (mkF m 87 #[.val (.int p0), .val (.int p1), .val (.int p2), .unset, .unset, .unset, .unset, .unset] [(.ref b1)]))
  refine own_step (fun t k => XS.dup X16.here hx rfl (hb hby at_87) rfl rfl k) ?_
  show own_Ends p e below s _ _ _ (T16.setTop (mkF m 88 #[.val (.int p0), .val (.int p1), .val (.int p2), .unset, .unset, .unset, .unset, .unset] [(.ref b1), (.ref b1)]))
  refine own_step (fun t k => XS.bipush X16.here hx rfl (hb hby at_88) k) ?_
  show own_Ends p e below s _ _ _ (T16.setTop (mkF m 90 #[.val (.int p0), .val (.int p1), .val (.int p2), .unset, .unset, .unset, .unset, .unset] [(.int (15 : Int32)), (.ref b1), (.ref b1)]))
  refine own_step (fun t k => X16.ldcInt hx hown (mvT hZ (hw _ (List.mem_of_getElem? (i := 11) rfl))) (g := (mkF m 90 #[.val (.int p0), .val (.int p1), .val (.int p2), .unset, .unset, .unset, .unset, .unset] [(.int (15 : Int32)), (.ref b1), (.ref b1)])) rfl (hb hby at_90) t k) ?_
  show own_Ends p e below s _ _ _ (T16.setTop (mkF m 92 #[.val (.int p0), .val (.int p1), .val (.int p2), .unset, .unset, .unset, .unset, .unset] [(.int (-2147483648 : Int32)), (.int (15 : Int32)), (.ref b1), (.ref b1)]))
  obtain ⟨T17, h17, X17, e17, W17, A17, st17⟩ := own_stI X16 hx hZ e16 A16 15 (by decide) (by decide) (g := (mkF m 92 #[.val (.int p0), .val (.int p1), .val (.int p2), .unset, .unset, .unset, .unset, .unset] [(.int (-2147483648 : Int32)), (.int (15 : Int32)), (.ref b1), (.ref b1)])) rfl rfl (hb hby at_92)
  refine own_step st17 ?_
  have N17 := Fr.snoc X17 N16 gn_b1
  have Z17 : n0 ≤ h17.size := by rw [W17.size]; exact Z16
  show own_Ends p e below s _ _ _ (T17.setTop (mkF m 93 #[.val (.int p0), .val (.int p1), .val (.int p2), .unset, .unset, .unset, .unset, .unset] [(.ref b1)]))
  refine own_step (fun t k => XS.dup X17.here hx rfl (hb hby at_93) rfl rfl k) ?_
  show own_Ends p e below s _ _ _ (T17.setTop (mkF m 94 #[.val (.int p0), .val (.int p1), .val (.int p2), .unset, .unset, .unset, .unset, .unset] [(.ref b1), (.ref b1)]))
  refine own_step (fun t k => XS.bipush X17.here hx rfl (hb hby at_94) k) ?_
  show own_Ends p e below s _ _ _ (T17.setTop (mkF m 96 #[.val (.int p0), .val (.int p1), .val (.int p2), .unset, .unset, .unset, .unset, .unset] [(.int (16 : Int32)), (.ref b1), (.ref b1)]))
  refine own_step (fun t k => X17.ldcInt hx hown (mvT hZ (hw _ (List.mem_of_getElem? (i := 12) rfl))) (g := (mkF m 96 #[.val (.int p0), .val (.int p1), .val (.int p2), .unset, .unset, .unset, .unset, .unset] [(.int (16 : Int32)), (.ref b1), (.ref b1)])) rfl (hb hby at_96) t k) ?_
  show own_Ends p e below s _ _ _ (T17.setTop (mkF m 98 #[.val (.int p0), .val (.int p1), .val (.int p2), .unset, .unset, .unset, .unset, .unset] [(.int (2147483647 : Int32)), (.int (16 : Int32)), (.ref b1), (.ref b1)]))
  obtain ⟨T18, h18, X18, e18, W18, A18, st18⟩ := own_stI X17 hx hZ e17 A17 16 (by decide) (by decide) (g := (mkF m 98 #[.val (.int p0), .val (.int p1), .val (.int p2), .unset, .unset, .unset, .unset, .unset] [(.int (2147483647 : Int32)), (.int (16 : Int32)), (.ref b1), (.ref b1)])) rfl rfl (hb hby at_98)
  refine own_step st18 ?_
  have N18 := Fr.snoc X18 N17 gn_b1
  have Z18 : n0 ≤ h18.size := by rw [W18.size]; exact Z17
  show own_Ends p e below s _ _ _ (T18.setTop (mkF m 99 #[.val (.int p0), .val (.int p1), .val (.int p2), .unset, .unset, .unset, .unset, .unset] [(.ref b1)]))
  refine own_step (fun t k => XS.astoreN X18.here hx rfl (hb hby at_99) rfl rfl (l' := #[.val (.int p0), .val (.int p1), .val (.int p2), .val (.ref b1), .unset, .unset, .unset, .unset]) rfl k) ?_
  show own_Ends p e below s _ _ _ (T18.setTop (mkF m 100 #[.val (.int p0), .val (.int p1), .val (.int p2), .val (.ref b1), .unset, .unset, .unset, .unset] []))
  refine own_step (fun t k => XS.iloadN X18.here hx rfl (hb hby at_100) rfl k) ?_
  show own_Ends p e below s _ _ _ (T18.setTop (mkF m 101 #[.val (.int p0), .val (.int p1), .val (.int p2), .val (.ref b1), .unset, .unset, .unset, .unset] [(.int p1)]))
  refine own_step (fun t k => X18.ldcInt hx hown (mvT hZ (hw _ (List.mem_of_getElem? (i := 12) rfl))) (g := (mkF m 101 #[.val (.int p0), .val (.int p1), .val (.int p2), .val (.ref b1), .unset, .unset, .unset, .unset] [(.int p1)])) rfl (hb hby at_101) t k) ?_
  show own_Ends p e below s _ _ _ (T18.setTop (mkF m 103 #[.val (.int p0), .val (.int p1), .val (.int p2), .val (.ref b1), .unset, .unset, .unset, .unset] [(.int (2147483647 : Int32)), (.int p1)]))
  refine own_step (fun t k => XS.iand X18.here hx rfl (hb hby at_103) rfl k) ?_
  show own_Ends p e below s _ _ _ (T18.setTop (mkF m 104 #[.val (.int p0), .val (.int p1), .val (.int p2), .val (.ref b1), .unset, .unset, .unset, .unset] [(.int (p1 &&& (2147483647 : Int32)))]))
  refine own_step (fun t k => XS.aloadN X18.here hx rfl (hb hby at_104) rfl rfl k) ?_
  show own_Ends p e below s _ _ _ (T18.setTop (mkF m 105 #[.val (.int p0), .val (.int p1), .val (.int p2), .val (.ref b1), .unset, .unset, .unset, .unset] [(.ref b1), (.int (p1 &&& (2147483647 : Int32)))]))
  refine own_step (fun t k => own_lenI X18 hx hZ e18 A18 (z := (17 : Int32)) (by decide) (g := (mkF m 105 #[.val (.int p0), .val (.int p1), .val (.int p2), .val (.ref b1), .unset, .unset, .unset, .unset] [(.ref b1), (.int (p1 &&& (2147483647 : Int32)))])) rfl rfl (hb hby at_105) t k) ?_
  show own_Ends p e below s _ _ _ (T18.setTop (mkF m 106 #[.val (.int p0), .val (.int p1), .val (.int p2), .val (.ref b1), .unset, .unset, .unset, .unset] [(.int (17 : Int32)), (.int (p1 &&& (2147483647 : Int32)))]))
  refine own_step (fun t k => iremM X18 hx rfl (hb hby at_106) rfl (by decide) k) ?_
  show own_Ends p e below s _ _ _ (T18.setTop (mkF m 107 #[.val (.int p0), .val (.int p1), .val (.int p2), .val (.ref b1), .unset, .unset, .unset, .unset] [(.int ((p1 &&& (2147483647 : Int32)) % (17 : Int32)))]))
  refine own_step (fun t k => XS.istore X18.here hx rfl (hb hby at_107) rfl (l' := #[.val (.int p0), .val (.int p1), .val (.int p2), .val (.ref b1), .val (.int ((p1 &&& (2147483647 : Int32)) % (17 : Int32))), .unset, .unset, .unset]) rfl k) ?_
  show own_Ends p e below s _ _ _ (T18.setTop (mkF m 109 #[.val (.int p0), .val (.int p1), .val (.int p2), .val (.ref b1), .val (.int ((p1 &&& (2147483647 : Int32)) % (17 : Int32))), .unset, .unset, .unset] []))
  refine own_step (fun t k => XS.aloadN X18.here hx rfl (hb hby at_109) rfl rfl k) ?_
  show own_Ends p e below s _ _ _ (T18.setTop (mkF m 110 #[.val (.int p0), .val (.int p1), .val (.int p2), .val (.ref b1), .val (.int ((p1 &&& (2147483647 : Int32)) % (17 : Int32))), .unset, .unset, .unset] [(.ref b1)]))
  refine own_step (fun t k => XS.iload X18.here hx rfl (hb hby at_110) rfl k) ?_
  show own_Ends p e below s _ _ _ (T18.setTop (mkF m 112 #[.val (.int p0), .val (.int p1), .val (.int p2), .val (.ref b1), .val (.int ((p1 &&& (2147483647 : Int32)) % (17 : Int32))), .unset, .unset, .unset] [(.int ((p1 &&& (2147483647 : Int32)) % (17 : Int32))), (.ref b1)]))
  refine own_step (fun t k => own_ldI X18 hx hZ e18 A18 (own_i p1) (own_hi p1) (own_lt p1) (g := (mkF m 112 #[.val (.int p0), .val (.int p1), .val (.int p2), .val (.ref b1), .val (.int ((p1 &&& (2147483647 : Int32)) % (17 : Int32))), .unset, .unset, .unset] [(.int ((p1 &&& (2147483647 : Int32)) % (17 : Int32))), (.ref b1)])) rfl rfl (hb hby at_112) t k) ?_
  show own_Ends p e below s _ _ _ (T18.setTop (mkF m 113 #[.val (.int p0), .val (.int p1), .val (.int p2), .val (.ref b1), .val (.int ((p1 &&& (2147483647 : Int32)) % (17 : Int32))), .unset, .unset, .unset] [(.int ((own_up (own_up (own_up (own_up (own_up (own_up (own_up (own_up (own_up (own_up (own_up (own_up (own_up (own_up (own_up (own_up (own_up (fun _ => 0) 0 ((0 : Int32))) 1 ((9 : Int32))) 2 ((10 : Int32))) 3 ((13 : Int32))) 4 ((32 : Int32))) 5 ((55295 : Int32))) 6 ((55296 : Int32))) 7 ((57343 : Int32))) 8 ((57344 : Int32))) 9 ((65533 : Int32))) 10 ((65534 : Int32))) 11 ((65535 : Int32))) 12 ((65536 : Int32))) 13 ((1114111 : Int32))) 14 ((1114112 : Int32))) 15 ((-2147483648 : Int32))) 16 ((2147483647 : Int32))) (own_i p1)))]))
  refine own_step (fun t k => XS.iloadN X18.here hx rfl (hb hby at_113) rfl k) ?_
  show own_Ends p e below s _ _ _ (T18.setTop (mkF m 114 #[.val (.int p0), .val (.int p1), .val (.int p2), .val (.ref b1), .val (.int ((p1 &&& (2147483647 : Int32)) % (17 : Int32))), .unset, .unset, .unset] [(.int p2), (.int ((own_up (own_up (own_up (own_up (own_up (own_up (own_up (own_up (own_up (own_up (own_up (own_up (own_up (own_up (own_up (own_up (own_up (fun _ => 0) 0 ((0 : Int32))) 1 ((9 : Int32))) 2 ((10 : Int32))) 3 ((13 : Int32))) 4 ((32 : Int32))) 5 ((55295 : Int32))) 6 ((55296 : Int32))) 7 ((57343 : Int32))) 8 ((57344 : Int32))) 9 ((65533 : Int32))) 10 ((65534 : Int32))) 11 ((65535 : Int32))) 12 ((65536 : Int32))) 13 ((1114111 : Int32))) 14 ((1114112 : Int32))) 15 ((-2147483648 : Int32))) 16 ((2147483647 : Int32))) (own_i p1)))]))
  refine own_step (fun t k => XS.iconst X18.here hx rfl (hb hby at_114) k) ?_
  show own_Ends p e below s _ _ _ (T18.setTop (mkF m 115 #[.val (.int p0), .val (.int p1), .val (.int p2), .val (.ref b1), .val (.int ((p1 &&& (2147483647 : Int32)) % (17 : Int32))), .unset, .unset, .unset] [(.int (3 : Int32)), (.int p2), (.int ((own_up (own_up (own_up (own_up (own_up (own_up (own_up (own_up (own_up (own_up (own_up (own_up (own_up (own_up (own_up (own_up (own_up (fun _ => 0) 0 ((0 : Int32))) 1 ((9 : Int32))) 2 ((10 : Int32))) 3 ((13 : Int32))) 4 ((32 : Int32))) 5 ((55295 : Int32))) 6 ((55296 : Int32))) 7 ((57343 : Int32))) 8 ((57344 : Int32))) 9 ((65533 : Int32))) 10 ((65534 : Int32))) 11 ((65535 : Int32))) 12 ((65536 : Int32))) 13 ((1114111 : Int32))) 14 ((1114112 : Int32))) 15 ((-2147483648 : Int32))) 16 ((2147483647 : Int32))) (own_i p1)))]))
  refine own_step (fun t k => XS.iand X18.here hx rfl (hb hby at_115) rfl k) ?_
  show own_Ends p e below s _ _ _ (T18.setTop (mkF m 116 #[.val (.int p0), .val (.int p1), .val (.int p2), .val (.ref b1), .val (.int ((p1 &&& (2147483647 : Int32)) % (17 : Int32))), .unset, .unset, .unset] [(.int (p2 &&& (3 : Int32))), (.int ((own_up (own_up (own_up (own_up (own_up (own_up (own_up (own_up (own_up (own_up (own_up (own_up (own_up (own_up (own_up (own_up (own_up (fun _ => 0) 0 ((0 : Int32))) 1 ((9 : Int32))) 2 ((10 : Int32))) 3 ((13 : Int32))) 4 ((32 : Int32))) 5 ((55295 : Int32))) 6 ((55296 : Int32))) 7 ((57343 : Int32))) 8 ((57344 : Int32))) 9 ((65533 : Int32))) 10 ((65534 : Int32))) 11 ((65535 : Int32))) 12 ((65536 : Int32))) 13 ((1114111 : Int32))) 14 ((1114112 : Int32))) 15 ((-2147483648 : Int32))) 16 ((2147483647 : Int32))) (own_i p1)))]))
  refine own_step (fun t k => XS.iconst X18.here hx rfl (hb hby at_116) k) ?_
  show own_Ends p e below s _ _ _ (T18.setTop (mkF m 117 #[.val (.int p0), .val (.int p1), .val (.int p2), .val (.ref b1), .val (.int ((p1 &&& (2147483647 : Int32)) % (17 : Int32))), .unset, .unset, .unset] [(.int (1 : Int32)), (.int (p2 &&& (3 : Int32))), (.int ((own_up (own_up (own_up (own_up (own_up (own_up (own_up (own_up (own_up (own_up (own_up (own_up (own_up (own_up (own_up (own_up (own_up (fun _ => 0) 0 ((0 : Int32))) 1 ((9 : Int32))) 2 ((10 : Int32))) 3 ((13 : Int32))) 4 ((32 : Int32))) 5 ((55295 : Int32))) 6 ((55296 : Int32))) 7 ((57343 : Int32))) 8 ((57344 : Int32))) 9 ((65533 : Int32))) 10 ((65534 : Int32))) 11 ((65535 : Int32))) 12 ((65536 : Int32))) 13 ((1114111 : Int32))) 14 ((1114112 : Int32))) 15 ((-2147483648 : Int32))) 16 ((2147483647 : Int32))) (own_i p1)))]))
  refine own_step (fun t k => XS.isub X18.here hx rfl (hb hby at_117) rfl k) ?_
  show own_Ends p e below s _ _ _ (T18.setTop (mkF m 118 #[.val (.int p0), .val (.int p1), .val (.int p2), .val (.ref b1), .val (.int ((p1 &&& (2147483647 : Int32)) % (17 : Int32))), .unset, .unset, .unset] [(.int ((p2 &&& (3 : Int32)) - (1 : Int32))), (.int ((own_up (own_up (own_up (own_up (own_up (own_up (own_up (own_up (own_up (own_up (own_up (own_up (own_up (own_up (own_up (own_up (own_up (fun _ => 0) 0 ((0 : Int32))) 1 ((9 : Int32))) 2 ((10 : Int32))) 3 ((13 : Int32))) 4 ((32 : Int32))) 5 ((55295 : Int32))) 6 ((55296 : Int32))) 7 ((57343 : Int32))) 8 ((57344 : Int32))) 9 ((65533 : Int32))) 10 ((65534 : Int32))) 11 ((65535 : Int32))) 12 ((65536 : Int32))) 13 ((1114111 : Int32))) 14 ((1114112 : Int32))) 15 ((-2147483648 : Int32))) 16 ((2147483647 : Int32))) (own_i p1)))]))
  refine own_step (fun t k => XS.iadd X18.here hx rfl (hb hby at_118) rfl k) ?_
  show own_Ends p e below s _ _ _ (T18.setTop (mkF m 119 #[.val (.int p0), .val (.int p1), .val (.int p2), .val (.ref b1), .val (.int ((p1 &&& (2147483647 : Int32)) % (17 : Int32))), .unset, .unset, .unset] [(.int (((own_up (own_up (own_up (own_up (own_up (own_up (own_up (own_up (own_up (own_up (own_up (own_up (own_up (own_up (own_up (own_up (own_up (fun _ => 0) 0 ((0 : Int32))) 1 ((9 : Int32))) 2 ((10 : Int32))) 3 ((13 : Int32))) 4 ((32 : Int32))) 5 ((55295 : Int32))) 6 ((55296 : Int32))) 7 ((57343 : Int32))) 8 ((57344 : Int32))) 9 ((65533 : Int32))) 10 ((65534 : Int32))) 11 ((65535 : Int32))) 12 ((65536 : Int32))) 13 ((1114111 : Int32))) 14 ((1114112 : Int32))) 15 ((-2147483648 : Int32))) 16 ((2147483647 : Int32))) (own_i p1)) + ((p2 &&& (3 : Int32)) - (1 : Int32))))]))
  generalize (((own_up (own_up (own_up (own_up (own_up (own_up (own_up (own_up (own_up (own_up (own_up (own_up (own_up (own_up (own_up (own_up (own_up (fun _ => 0) 0 ((0 : Int32))) 1 ((9 : Int32))) 2 ((10 : Int32))) 3 ((13 : Int32))) 4 ((32 : Int32))) 5 ((55295 : Int32))) 6 ((55296 : Int32))) 7 ((57343 : Int32))) 8 ((57344 : Int32))) 9 ((65533 : Int32))) 10 ((65534 : Int32))) 11 ((65535 : Int32))) 12 ((65536 : Int32))) 13 ((1114111 : Int32))) 14 ((1114112 : Int32))) 15 ((-2147483648 : Int32))) 16 ((2147483647 : Int32))) (own_i p1)) + ((p2 &&& (3 : Int32)) - (1 : Int32))) = z119
  show own_Ends p e below s _ _ _ (T18.setTop (mkF m 119 #[.val (.int p0), .val (.int p1), .val (.int p2), .val (.ref b1), .val (.int ((p1 &&& (2147483647 : Int32)) % (17 : Int32))), .unset, .unset, .unset] [(.int z119)]))
  refine own_step (fun t k => XS.istore X18.here hx rfl (hb hby at_119) rfl (l' := #[.val (.int p0), .val (.int p1), .val (.int p2), .val (.ref b1), .val (.int ((p1 &&& (2147483647 : Int32)) % (17 : Int32))), .val (.int z119), .unset, .unset]) rfl k) ?_
  show own_Ends p e below s _ _ _ (T18.setTop (mkF m 121 #[.val (.int p0), .val (.int p1), .val (.int p2), .val (.ref b1), .val (.int ((p1 &&& (2147483647 : Int32)) % (17 : Int32))), .val (.int z119), .unset, .unset] []))
  refine own_step (fun t k => XS.iloadN X18.here hx rfl (hb hby at_121) rfl k) ?_
  show own_Ends p e below s _ _ _ (T18.setTop (mkF m 122 #[.val (.int p0), .val (.int p1), .val (.int p2), .val (.ref b1), .val (.int ((p1 &&& (2147483647 : Int32)) % (17 : Int32))), .val (.int z119), .unset, .unset] [(.int p0)]))
  obtain ⟨_, _, ⟨T19, L19, k19, n19⟩, -, X19, ⟨Lc19, hQ19, l19, y19, z19⟩, st19⟩ := Jvm.LawKit.callS X18 hx (y := (⟨"com/example/plumbline/plumbline/document/Xml", "isCharacter", "(I)Z"⟩ : MethodName)) hown (mvT hZ (hw _ (List.mem_of_getElem? (i := 13) rfl))) (mvT hZ (hw _ (List.mem_of_getElem? (i := 14) rfl))) (mvT hZ (hw _ (List.mem_of_getElem? (i := 15) rfl))) (mvT hZ (hw _ (List.mem_of_getElem? (i := 16) rfl))) (by decide) (backOf (W := 0) (rm1 l Z a0 hw [] p0  h18 n0  ) hZ (hw _ (List.mem_of_getElem? (i := 16) rfl)) (hw _ (List.mem_of_getElem? (i := 15) rfl)) (by decide) (by decide)) (g := (mkF m 122 #[.val (.int p0), .val (.int p1), .val (.int p2), .val (.ref b1), .val (.int ((p1 &&& (2147483647 : Int32)) % (17 : Int32))), .val (.int z119), .unset, .unset] [(.int p0)])) rfl (by rw [hml]; rfl) (argsL := [(.int p0)]) (rest := []) (lenOf pd0_0 rfl) rfl (by show 2 * 0 + _ ≤ _; exact Nat.le_of_eq rfl) (hb hby at_122) (fun _ _ => ⟨rfl, e18, (by decide : 1 + 0 ≤ _), (by decide : 17 + 0 ≤ _)⟩)
  dsimp only [Pt.U, Pt.locs, Pt.cells, Pt.slots] at X19 l19 y19 z19 st19 hQ19
  subst l19 y19 z19
  obtain ⟨rfl, N19q, e19⟩ := hQ19
  have N19 := Fr.app N18 N19q
  refine own_step st19 ?_
  show own_Ends p e below s _ _ _ (T19.setTop (mkF m 125 #[.val (.int p0), .val (.int p1), .val (.int p2), .val (.ref b1), .val (.int ((p1 &&& (2147483647 : Int32)) % (17 : Int32))), .val (.int z119), .unset, .unset] [(.int (f1_0 p0))]))
  refine own_step (fun t k => XS.iloadN X19.here hx rfl (hb hby at_125) rfl k) ?_
  show own_Ends p e below s _ _ _ (T19.setTop (mkF m 126 #[.val (.int p0), .val (.int p1), .val (.int p2), .val (.ref b1), .val (.int ((p1 &&& (2147483647 : Int32)) % (17 : Int32))), .val (.int z119), .unset, .unset] [(.int p0), (.int (f1_0 p0))]))
  obtain ⟨_, _, ⟨T20, L20, k20, n20⟩, -, X20, ⟨Lc20, hQ20, l20, y20, z20⟩, st20⟩ := Jvm.LawKit.callS X19 hx (y := (⟨"com/example/plumbline/plumbline/document/XmlIsCharacterPinLaw", "spec", "(I)Z"⟩ : MethodName)) hown (mvT hZ (hw _ (List.mem_of_getElem? (i := 19) rfl))) (mvT hZ (hw _ (List.mem_of_getElem? (i := 20) rfl))) (mvT hZ (hw _ (List.mem_of_getElem? (i := 21) rfl))) (mvT hZ (hw _ (List.mem_of_getElem? (i := 22) rfl))) (by decide) (backOf (W := 1) (rm2 l Z a0 hw [] p0  h18 n0  ) hZ (hw _ (List.mem_of_getElem? (i := 22) rfl)) (hw _ (List.mem_of_getElem? (i := 21) rfl)) (by decide) (by decide)) (g := (mkF m 126 #[.val (.int p0), .val (.int p1), .val (.int p2), .val (.ref b1), .val (.int ((p1 &&& (2147483647 : Int32)) % (17 : Int32))), .val (.int z119), .unset, .unset] [(.int p0), (.int (f1_0 p0))])) rfl (by rw [hml]; rfl) (argsL := [(.int p0)]) (rest := [(.int (f1_0 p0))]) (lenOf pd0_0 rfl) rfl (by show 2 * 0 + _ ≤ _; exact Nat.le_of_eq rfl) (hb hby at_126) (fun _ _ => ⟨rfl, e19, (by decide : 1 + 0 ≤ _), (by decide : 17 + 0 ≤ _)⟩)
  dsimp only [Pt.U, Pt.locs, Pt.cells, Pt.slots] at X20 l20 y20 z20 st20 hQ20
  subst l20 y20 z20
  obtain ⟨rfl, N20q, e20⟩ := hQ20
  have N20 := Fr.app N19 N20q
  refine own_step st20 ?_
  show own_Ends p e below s _ _ _ (T20.setTop (mkF m 129 #[.val (.int p0), .val (.int p1), .val (.int p2), .val (.ref b1), .val (.int ((p1 &&& (2147483647 : Int32)) % (17 : Int32))), .val (.int z119), .unset, .unset] [(.int (f2_0 p0)), (.int (f1_0 p0))]))
  refine own_step (fun t k => XS.icmpNo X20.here hx rfl (hb hby at_129) rfl (teq (own_same p0)).2 k) ?_
  show own_Ends p e below s _ _ _ (T20.setTop (mkF m 132 #[.val (.int p0), .val (.int p1), .val (.int p2), .val (.ref b1), .val (.int ((p1 &&& (2147483647 : Int32)) % (17 : Int32))), .val (.int z119), .unset, .unset] []))
  refine own_step (fun t k => XS.iconst X20.here hx rfl (hb hby at_132) k) ?_
  show own_Ends p e below s _ _ _ (T20.setTop (mkF m 133 #[.val (.int p0), .val (.int p1), .val (.int p2), .val (.ref b1), .val (.int ((p1 &&& (2147483647 : Int32)) % (17 : Int32))), .val (.int z119), .unset, .unset] [(.int (1 : Int32))]))
  refine own_step (fun t k => XS.goto X20.here hx rfl (pc0 := 133) (pc' := 137) rfl (hb hby at_133) (by decide) (by decide) k) ?_
  show own_Ends p e below s _ _ _ (T20.setTop (mkF m 137 #[.val (.int p0), .val (.int p1), .val (.int p2), .val (.ref b1), .val (.int ((p1 &&& (2147483647 : Int32)) % (17 : Int32))), .val (.int z119), .unset, .unset] [(.int (1 : Int32))]))
  refine own_step (fun t k => XS.istore X20.here hx rfl (hb hby at_137) rfl (l' := #[.val (.int p0), .val (.int p1), .val (.int p2), .val (.ref b1), .val (.int ((p1 &&& (2147483647 : Int32)) % (17 : Int32))), .val (.int z119), .val (.int (1 : Int32)), .unset]) rfl k) ?_
  show own_Ends p e below s _ _ _ (T20.setTop (mkF m 139 #[.val (.int p0), .val (.int p1), .val (.int p2), .val (.ref b1), .val (.int ((p1 &&& (2147483647 : Int32)) % (17 : Int32))), .val (.int z119), .val (.int (1 : Int32)), .unset] []))
  refine own_step (fun t k => XS.iload X20.here hx rfl (hb hby at_139) rfl k) ?_
  show own_Ends p e below s _ _ _ (T20.setTop (mkF m 141 #[.val (.int p0), .val (.int p1), .val (.int p2), .val (.ref b1), .val (.int ((p1 &&& (2147483647 : Int32)) % (17 : Int32))), .val (.int z119), .val (.int (1 : Int32)), .unset] [(.int z119)]))
  obtain ⟨_, _, ⟨T21, L21, k21, n21⟩, -, X21, ⟨Lc21, hQ21, l21, y21, z21⟩, st21⟩ := Jvm.LawKit.callS X20 hx (y := (⟨"com/example/plumbline/plumbline/document/Xml", "isCharacter", "(I)Z"⟩ : MethodName)) hown (mvT hZ (hw _ (List.mem_of_getElem? (i := 13) rfl))) (mvT hZ (hw _ (List.mem_of_getElem? (i := 14) rfl))) (mvT hZ (hw _ (List.mem_of_getElem? (i := 15) rfl))) (mvT hZ (hw _ (List.mem_of_getElem? (i := 16) rfl))) (by decide) (backOf (W := 0) (rm1 l Z a0 hw [] z119  h18 n0  ) hZ (hw _ (List.mem_of_getElem? (i := 16) rfl)) (hw _ (List.mem_of_getElem? (i := 15) rfl)) (by decide) (by decide)) (g := (mkF m 141 #[.val (.int p0), .val (.int p1), .val (.int p2), .val (.ref b1), .val (.int ((p1 &&& (2147483647 : Int32)) % (17 : Int32))), .val (.int z119), .val (.int (1 : Int32)), .unset] [(.int z119)])) rfl (by rw [hml]; rfl) (argsL := [(.int z119)]) (rest := []) (lenOf pd0_0 rfl) rfl (by show 2 * 0 + _ ≤ _; exact Nat.le_of_eq rfl) (hb hby at_141) (fun _ _ => ⟨rfl, e20, (by decide : 1 + 0 ≤ _), (by decide : 17 + 0 ≤ _)⟩)
  dsimp only [Pt.U, Pt.locs, Pt.cells, Pt.slots] at X21 l21 y21 z21 st21 hQ21
  subst l21 y21 z21
  obtain ⟨rfl, N21q, e21⟩ := hQ21
  have N21 := Fr.app N20 N21q
  refine own_step st21 ?_
  show own_Ends p e below s _ _ _ (T21.setTop (mkF m 144 #[.val (.int p0), .val (.int p1), .val (.int p2), .val (.ref b1), .val (.int ((p1 &&& (2147483647 : Int32)) % (17 : Int32))), .val (.int z119), .val (.int (1 : Int32)), .unset] [(.int (f1_0 z119))]))
  refine own_step (fun t k => XS.iload X21.here hx rfl (hb hby at_144) rfl k) ?_
  show own_Ends p e below s _ _ _ (T21.setTop (mkF m 146 #[.val (.int p0), .val (.int p1), .val (.int p2), .val (.ref b1), .val (.int ((p1 &&& (2147483647 : Int32)) % (17 : Int32))), .val (.int z119), .val (.int (1 : Int32)), .unset] [(.int z119), (.int (f1_0 z119))]))
  obtain ⟨_, _, ⟨T22, L22, k22, n22⟩, -, X22, ⟨Lc22, hQ22, l22, y22, z22⟩, st22⟩ := Jvm.LawKit.callS X21 hx (y := (⟨"com/example/plumbline/plumbline/document/XmlIsCharacterPinLaw", "spec", "(I)Z"⟩ : MethodName)) hown (mvT hZ (hw _ (List.mem_of_getElem? (i := 19) rfl))) (mvT hZ (hw _ (List.mem_of_getElem? (i := 20) rfl))) (mvT hZ (hw _ (List.mem_of_getElem? (i := 21) rfl))) (mvT hZ (hw _ (List.mem_of_getElem? (i := 22) rfl))) (by decide) (backOf (W := 1) (rm2 l Z a0 hw [] z119  h18 n0  ) hZ (hw _ (List.mem_of_getElem? (i := 22) rfl)) (hw _ (List.mem_of_getElem? (i := 21) rfl)) (by decide) (by decide)) (g := (mkF m 146 #[.val (.int p0), .val (.int p1), .val (.int p2), .val (.ref b1), .val (.int ((p1 &&& (2147483647 : Int32)) % (17 : Int32))), .val (.int z119), .val (.int (1 : Int32)), .unset] [(.int z119), (.int (f1_0 z119))])) rfl (by rw [hml]; rfl) (argsL := [(.int z119)]) (rest := [(.int (f1_0 z119))]) (lenOf pd0_0 rfl) rfl (by show 2 * 0 + _ ≤ _; exact Nat.le_of_eq rfl) (hb hby at_146) (fun _ _ => ⟨rfl, e21, (by decide : 1 + 0 ≤ _), (by decide : 17 + 0 ≤ _)⟩)
  dsimp only [Pt.U, Pt.locs, Pt.cells, Pt.slots] at X22 l22 y22 z22 st22 hQ22
  subst l22 y22 z22
  obtain ⟨rfl, N22q, e22⟩ := hQ22
  have N22 := Fr.app N21 N22q
  refine own_step st22 ?_
  show own_Ends p e below s _ _ _ (T22.setTop (mkF m 149 #[.val (.int p0), .val (.int p1), .val (.int p2), .val (.ref b1), .val (.int ((p1 &&& (2147483647 : Int32)) % (17 : Int32))), .val (.int z119), .val (.int (1 : Int32)), .unset] [(.int (f2_0 z119)), (.int (f1_0 z119))]))
  refine own_step (fun t k => XS.icmpNo X22.here hx rfl (hb hby at_149) rfl (teq (own_same z119)).2 k) ?_
  show own_Ends p e below s _ _ _ (T22.setTop (mkF m 152 #[.val (.int p0), .val (.int p1), .val (.int p2), .val (.ref b1), .val (.int ((p1 &&& (2147483647 : Int32)) % (17 : Int32))), .val (.int z119), .val (.int (1 : Int32)), .unset] []))
  refine own_step (fun t k => XS.iconst X22.here hx rfl (hb hby at_152) k) ?_
  show own_Ends p e below s _ _ _ (T22.setTop (mkF m 153 #[.val (.int p0), .val (.int p1), .val (.int p2), .val (.ref b1), .val (.int ((p1 &&& (2147483647 : Int32)) % (17 : Int32))), .val (.int z119), .val (.int (1 : Int32)), .unset] [(.int (1 : Int32))]))
  refine own_step (fun t k => XS.goto X22.here hx rfl (pc0 := 153) (pc' := 157) rfl (hb hby at_153) (by decide) (by decide) k) ?_
  show own_Ends p e below s _ _ _ (T22.setTop (mkF m 157 #[.val (.int p0), .val (.int p1), .val (.int p2), .val (.ref b1), .val (.int ((p1 &&& (2147483647 : Int32)) % (17 : Int32))), .val (.int z119), .val (.int (1 : Int32)), .unset] [(.int (1 : Int32))]))
  refine own_step (fun t k => XS.istore X22.here hx rfl (hb hby at_157) rfl (l' := #[.val (.int p0), .val (.int p1), .val (.int p2), .val (.ref b1), .val (.int ((p1 &&& (2147483647 : Int32)) % (17 : Int32))), .val (.int z119), .val (.int (1 : Int32)), .val (.int (1 : Int32))]) rfl k) ?_
  show own_Ends p e below s _ _ _ (T22.setTop (mkF m 159 #[.val (.int p0), .val (.int p1), .val (.int p2), .val (.ref b1), .val (.int ((p1 &&& (2147483647 : Int32)) % (17 : Int32))), .val (.int z119), .val (.int (1 : Int32)), .val (.int (1 : Int32))] []))
  refine own_step (fun t k => XS.iload X22.here hx rfl (hb hby at_159) rfl k) ?_
  show own_Ends p e below s _ _ _ (T22.setTop (mkF m 161 #[.val (.int p0), .val (.int p1), .val (.int p2), .val (.ref b1), .val (.int ((p1 &&& (2147483647 : Int32)) % (17 : Int32))), .val (.int z119), .val (.int (1 : Int32)), .val (.int (1 : Int32))] [(.int (1 : Int32))]))
  refine own_step (fun t k => XS.ifNo X22.here hx rfl (hb hby at_161) rfl ((if0 _ _).trans (feq (by decide : ¬ ((1 : Int32) = (0 : Int32)))).1) k) ?_
  show own_Ends p e below s _ _ _ (T22.setTop (mkF m 164 #[.val (.int p0), .val (.int p1), .val (.int p2), .val (.ref b1), .val (.int ((p1 &&& (2147483647 : Int32)) % (17 : Int32))), .val (.int z119), .val (.int (1 : Int32)), .val (.int (1 : Int32))] []))
  refine own_step (fun t k => XS.iload X22.here hx rfl (hb hby at_164) rfl k) ?_
  show own_Ends p e below s _ _ _ (T22.setTop (mkF m 166 #[.val (.int p0), .val (.int p1), .val (.int p2), .val (.ref b1), .val (.int ((p1 &&& (2147483647 : Int32)) % (17 : Int32))), .val (.int z119), .val (.int (1 : Int32)), .val (.int (1 : Int32))] [(.int (1 : Int32))]))
  refine own_step (fun t k => XS.ifNo X22.here hx rfl (hb hby at_166) rfl ((if0 _ _).trans (feq (by decide : ¬ ((1 : Int32) = (0 : Int32)))).1) k) ?_
  show own_Ends p e below s _ _ _ (T22.setTop (mkF m 169 #[.val (.int p0), .val (.int p1), .val (.int p2), .val (.ref b1), .val (.int ((p1 &&& (2147483647 : Int32)) % (17 : Int32))), .val (.int z119), .val (.int (1 : Int32)), .val (.int (1 : Int32))] []))
  refine own_step (fun t k => XS.iconst X22.here hx rfl (hb hby at_169) k) ?_
  show own_Ends p e below s _ _ _ (T22.setTop (mkF m 170 #[.val (.int p0), .val (.int p1), .val (.int p2), .val (.ref b1), .val (.int ((p1 &&& (2147483647 : Int32)) % (17 : Int32))), .val (.int z119), .val (.int (1 : Int32)), .val (.int (1 : Int32))] [(.int (1 : Int32))]))
  refine own_step (fun t k => XS.goto X22.here hx rfl (pc0 := 170) (pc' := 174) rfl (hb hby at_170) (by decide) (by decide) k) ?_
  show own_Ends p e below s _ _ _ (T22.setTop (mkF m 174 #[.val (.int p0), .val (.int p1), .val (.int p2), .val (.ref b1), .val (.int ((p1 &&& (2147483647 : Int32)) % (17 : Int32))), .val (.int z119), .val (.int (1 : Int32)), .val (.int (1 : Int32))] [(.int (1 : Int32))]))
  exact own_retN X22 hx hlk (t := .boolean) hret (by simp) (hb hby at_174) (w := (1 : Int32)) (by decide) ⟨rfl, N22⟩ (by decide) (by decide)
set_option maxRecDepth 65536 in
set_option maxHeartbeats 40000000 in
theorem comes_1 {Post : Tables → Env → Array Value → State → Outcome → State → Prop} (hpost : ∀ tb e args s v u, (limb_1_1.after args s (.returned v) u = true ∧ limb_1_2.after args s (.returned v) u = true ∧ True) → FrameEnd s (.returned v) u (Jvm.fieldLocs frame_1_writes args s ++ Jvm.arrayLocs frame_1_arrays args s ++ Jvm.staticLocs frame_1_statics s) 16 128 → Post tb e args s (.returned v) u) :
    ArmFor flags0 classFile x code maxLocals ret World_1 tables_1 room_1 Calls_1 rest_1 Pre_1 Post := by
  intro l hfl _ _ p e ha hc hk s m args below hf hA hF happ hP
  obtain ⟨hcalls, hrest, hpre⟩ := hP
  obtain ⟨-, -, -, hnamed, -, -, -, hat⟩ := (Spec.applies_iff hf).mp happ
  obtain ⟨hg, hn⟩ := and_e (Cond.before_iff.mp (show (Jvm.Cond.and given_1 narrow_1).before args s = true from hpre))
  obtain ⟨g0, hr0⟩ := and_e hg
  obtain ⟨g1, hr1⟩ := and_e hr0
  obtain ⟨g2, hr2⟩ := and_e hr1
  obtain ⟨w0, w1, w2, rfl⟩ : ∃ w0 w1 w2 : Value, args = #[w0, w1, w2] := by
    have hs : args.size = 3 := by simpa [Cond.value, given_1] using g0
    obtain ⟨L⟩ := args
    match L, hs with
    | [w0, w1, w2], _ => exact ⟨w0, w1, w2, rfl⟩
  have hw := fun d (hd : d ∈ tables_1) => atoms_spec (ws := Jvm.Cond.code x code maxLocals ret :: tables_1) hat d (List.mem_cons_of_mem _ hd)
  obtain ⟨i0, ei0⟩ := is_v g1
  obtain rfl : w0 = (.int i0) := Option.some.inj ei0
  obtain ⟨i1, ei1⟩ := is_v g2
  obtain rfl : w1 = (.int i1) := Option.some.inj ei1
  obtain ⟨i2, ei2⟩ := is_v hr2
  obtain rfl : w2 = (.int i2) := Option.some.inj ei2
  obtain ⟨n, o, h1, h2, h3, _, L, rfl, ⟨rfl, N⟩, hq⟩ := rm0 l s _ hw tables_1 i0 i1 i2 s.heap s.heap.size (Nat.le_refl _)  p e ha hc hk s m _ below hf ((Spec.applies_iff_loose hf).mp happ).1 ⟨rfl, State.Warmed39.refl s, rfl⟩ trivial
  refine ⟨n, _, h1, h2, h3, hpost _ _ _ _ _ _ ⟨Cond.after_iff.mpr rfl, Cond.after_iff.mpr (eq_i res_at (Term.int_eval (1)) rfl), trivial⟩ ⟨hq.1, hq.2.1, (hq.2.2.sift fun y hy => Or.inr (N y hy)).mono (by decide) (by decide)⟩⟩
theorem main_1_1 : Claimed_1_1 := comes_1 fun _ _ _ _ _ _ h hF => ⟨h.1, hF⟩
theorem main_1_2 : Claimed_1_2 := comes_1 fun _ _ _ _ _ _ h hF => ⟨h.2.1, hF⟩
end Jvm.Pilot.@@N@@
namespace Jvm.Pilot.@@N@@
open Jvm Jvm.ClassFile Sem Op Lib Jvm.Free Jvm.Stand Jvm.Pilot.@@N@@.Jvm.D
/-! MADE BY PROGRAM (witnessworld.py) out of the Statement's table words and the real class files: 9 classes; the members and pool entries that the words name. The judged class is class 1, her method 2. -/
namespace start1
open Jvm.ClassFile
def u (s : String) : CpInfo := .utf8 (stringToUtf16 s)
/-- a pool by its gaps: so many unusable entries, then the entry; so many at the end -/
def gap : Nat → List CpInfo → List CpInfo
  | 0, r => r
  | n + 1, r => .unusable :: gap n r
def poolList (es : List (Nat × CpInfo)) (last : Nat) : List CpInfo := es.foldr (fun e r => gap e.1 (e.2 :: r)) (gap last [])
def pool (es : List (Nat × CpInfo)) (last : Nat) : Array CpInfo := ⟨poolList es last⟩
def fileOf (pool : Array CpInfo) (this : Nat) (attrs : Array Attribute := #[]) (ms : Array MethodInfo := #[]) (fl : Nat := 33) (sup : Nat := 0) (ifs : Array Nat := #[]) (fds : Array FieldInfo := #[]) : ClassFile where
  minorVersion := 0
  majorVersion := 65
  constantPool := pool
  accessFlags := fl
  thisClass := this
  superClass := sup
  interfaces := ifs
  fields := fds
  methods := ms
  attributes := attrs
def plain (name : String) (sup : Option ClassId) : Class where
  name := name
  kind := .ordinary
  loader := none
  accessFlags := 33
  super := sup
  interfaces := #[]
  cf := none
  fields := #[]
  methods := #[]
  instanceTypes := #[]
  staticTypes := #[]
  resolved := #[]
  callSites := []
  init := .initialized
  statics := none
  mirror := none

def pool0 : Array CpInfo := pool [(5, u "<init>"), (0, u "()V"), (1, .class_ 10), (1, u "java/lang/Object")] 113

def k0m0 : Method := { name := "<init>", desc := "()V", sig := { parameters := [], returnType := none }, accessFlags := 1, code := none }
/-- java/lang/Object -/
def k0 : Class := { plain "java/lang/Object" none with
  accessFlags := 33
  interfaces := #[]
  cf := some (fileOf pool0 8 #[] #[{ accessFlags := 1, nameIndex := 5, descriptorIndex := 6, attributes := #[] }] 33 0 #[] #[])
  fields := #[]
  methods := #[k0m0]
  instanceTypes := #[]
  staticTypes := #[]
  resolved := Array.replicate 124 none
  statics := none }

def pool1 : Array CpInfo := pool [(2, .class_ 4), (1, u "java/lang/Object"), (0, u "<init>"), (0, u "()V"), (0, .integer 1114111), (0, .integer 55296), (0, .integer 57343), (0, .integer 65534), (0, .integer 65535), (0, .integer 55295), (0, .integer 57344), (0, .integer 65533), (0, .integer 65536), (0, .integer 1114112), (2, .integer 2147483648), (0, .integer 2147483647), (0, .methodref 22 23), (0, .class_ 24), (0, .nameAndType 25 26), (0, u "com/example/plumbline/plumbline/document/Xml"), (0, u "isCharacter"), (0, u "(I)Z"), (0, .methodref 28 29), (0, .class_ 30), (0, .nameAndType 31 26), (0, u "com/example/plumbline/plumbline/document/XmlIsCharacterPinLaw"), (0, u "spec"), (3, u "law"), (0, u "(III)Z")] 4

def k1m0 : Method := { name := "<init>", desc := "()V", sig := { parameters := [], returnType := none }, accessFlags := 2, code := none }
def k1c1 : Code := { maxStack := 2, maxLocals := 1, code := method_2_code, exceptionTable := #[], attributes := #[] }
def k1m1 : Method := { name := "spec", desc := "(I)Z", sig := { parameters := [.int], returnType := some .boolean }, accessFlags := 10, code := some k1c1 }
def k1c2 : Code := { maxStack := 4, maxLocals := 8, code := code, exceptionTable := #[], attributes := #[] }
def k1m2 : Method := { name := "law", desc := "(III)Z", sig := { parameters := [.int, .int, .int], returnType := some .boolean }, accessFlags := 9, code := some k1c2 }
/-- com/example/plumbline/plumbline/document/XmlIsCharacterPinLaw -/
def k1 : Class := { plain "com/example/plumbline/plumbline/document/XmlIsCharacterPinLaw" (some 0) with
  accessFlags := 49
  interfaces := #[]
  cf := some (fileOf pool1 28 #[] #[{ accessFlags := 2, nameIndex := 5, descriptorIndex := 6, attributes := #[] }, { accessFlags := 10, nameIndex := 31, descriptorIndex := 26, attributes := #[] }, { accessFlags := 9, nameIndex := 35, descriptorIndex := 36, attributes := #[] }] 49 2 #[] #[])
  fields := #[]
  methods := #[k1m0, k1m1, k1m2]
  instanceTypes := #[]
  staticTypes := #[]
  resolved := Array.replicate 41 none
  statics := none }

def pool2 : Array CpInfo := pool [(2, .class_ 4), (1, u "java/lang/Object"), (0, u "<init>"), (0, u "()V"), (34, .class_ 43), (1, u "com/example/plumbline/plumbline/document/Xml"), (11, .integer 55295), (0, .integer 57344), (0, .integer 65533), (0, .integer 65536), (0, .integer 1114111), (4, u "isCharacter"), (0, u "(I)Z")] 17

def k2m0 : Method := { name := "<init>", desc := "()V", sig := { parameters := [], returnType := none }, accessFlags := 2, code := none }
def k2c1 : Code := { maxStack := 2, maxLocals := 1, code := prog_92_method_4_code, exceptionTable := #[], attributes := #[] }
def k2m1 : Method := { name := "isCharacter", desc := "(I)Z", sig := { parameters := [.int], returnType := some .boolean }, accessFlags := 8, code := some k2c1 }
/-- com/example/plumbline/plumbline/document/Xml -/
def k2 : Class := { plain "com/example/plumbline/plumbline/document/Xml" (some 0) with
  accessFlags := 48
  interfaces := #[]
  cf := some (fileOf pool2 41 #[] #[{ accessFlags := 2, nameIndex := 5, descriptorIndex := 6, attributes := #[] }, { accessFlags := 8, nameIndex := 64, descriptorIndex := 65, attributes := #[] }] 48 2 #[] #[])
  fields := #[]
  methods := #[k2m0, k2m1]
  instanceTypes := #[]
  staticTypes := #[]
  resolved := Array.replicate 83 none
  statics := none }

def pool3 : Array CpInfo := pool [(1, u "java/lang/Cloneable"), (0, .class_ 1), (0, u "java/lang/Object"), (0, .class_ 3)] 3

/-- java/lang/Cloneable -/
def k3 : Class := { plain "java/lang/Cloneable" (some 0) with
  accessFlags := 1537
  interfaces := #[]
  cf := some (fileOf pool3 2 #[] #[] 1537 4 #[] #[])
  fields := #[]
  methods := #[]
  instanceTypes := #[]
  staticTypes := #[]
  resolved := Array.replicate 8 none
  statics := none }

def pool4 : Array CpInfo := pool [(1, u "java/io/Serializable"), (0, .class_ 1), (0, u "java/lang/Object"), (0, .class_ 3)] 3

/-- java/io/Serializable -/
def k4 : Class := { plain "java/io/Serializable" (some 0) with
  accessFlags := 1537
  interfaces := #[]
  cf := some (fileOf pool4 2 #[] #[] 1537 4 #[] #[])
  fields := #[]
  methods := #[]
  instanceTypes := #[]
  staticTypes := #[]
  resolved := Array.replicate 8 none
  statics := none }

/-- the primitive byte -/
def k5 : Class := { plain "byte" none with kind := .primitive 'B', accessFlags := 0x411 }
/-- [B -/
def k6 : Class := { plain "[B" (some 0) with kind := .array 5 .byte, interfaces := #[3, 4], accessFlags := 1041 }

/-- the primitive int -/
def k7 : Class := { plain "int" none with kind := .primitive 'I', accessFlags := 0x411 }
/-- [I -/
def k8 : Class := { plain "[I" (some 0) with kind := .array 7 .int, interfaces := #[3, 4], accessFlags := 1041 }

def heap : Heap := #[]
def classes : Array Class := #[k0, k1, k2, k3, k4, k5, k6, k7, k8]
def interned : List (Array UInt16 × Addr) := []
def slotsUsed : Nat := 0
def theMethod : MethodId := ⟨1, 2⟩
def args0 : Array Value := #[.int 5, .int 300, .int 7]
def aboutOver (below : List Frame) : State where
  vm := { classes := classes, interned := interned.toArray }
  heap := heap
  slotsUsed := slotsUsed
  threads := #[{ frames := .invoking theMethod args0 :: below }]
def below0 : List Frame := [.native { method := ⟨0, 0⟩, args := #[] }]
def about1 : State := aboutOver below0
def p0 : Program := .bare "" "" ""
def e0 : Env := launch0.env 0 0 0
theorem w_frames : about1.frames = Frame.invoking theMethod args0 :: below0 := rfl
set_option maxRecDepth 65536 in
theorem w_args : argsFit about1.vm theMethod args0 = true := by decide +kernel
set_option maxRecDepth 65536 in
theorem w_heap : heapFits about1 = true := by decide +kernel
set_option maxRecDepth 65536 in
theorem w_runnable : about1.curStatus? = some .runnable := by decide +kernel
set_option maxRecDepth 65536 in
theorem w_alone : about1.alone = true := by decide +kernel
set_option maxRecDepth 65536 in
theorem w_named : about1.methodNamed? x = some theMethod := by decide +kernel
set_option maxRecDepth 65536 in
theorem w_hears : about1.hears theMethod below0 = true := by decide +kernel
set_option maxRecDepth 65536 in
theorem w_ripe : about1.ripe theMethod args0 below0 = true := by decide +kernel
theorem w_running : about1.status = .running := rfl
set_option maxRecDepth 65536 in
theorem w_room : about1.hasRoom e0.platform room_1 = true :=
  launch0.hasRoom_least _ room_1 (by decide +kernel) (by decide +kernel) (by decide +kernel) (by decide +kernel) (by decide +kernel) (by decide +kernel)
theorem allAtoms_all (ts : List Jvm.Cond) (a : Array Jvm.Value) (st : Jvm.State) : (allAtoms ts).before a st = ts.all (fun c => c.before a st) := by
  induction ts with
  | nil => rfl
  | cons c t ih =>
    show (Jvm.Cond.and c (allAtoms t)).before a st = _
    rw [Jvm.Cond.before_and, ih, List.all_cons]
def words1 : List Jvm.Cond := Jvm.Cond.code x code maxLocals ret :: tables_1
/-- a 'code' word, met by the world's own term for the bytes: nothing is compared byte by byte -/
theorem code_word {y : MethodName} {bytes : ByteArray} {mx : Nat} {rt : Option FieldType} {a : Array Value} {s : State} {m : MethodId} {meth : Method} {c : Code} (h1 : s.methodNamed? y = some m) (h2 : s.vm.method? m = some meth) (h3 : meth.code = some c) (h4 : c.code = bytes)
    (h5 : (c.maxLocals == mx && c.exceptionTable.isEmpty && decide (c.maxStack ≤ mostOperands) && decide (meth.sig.returnType = rt) && !meth.locks && decide (parseMethodDescriptor y.desc = some meth.sig)) = true) : (Jvm.Cond.code y bytes mx rt).before a s = true := by
  simp only [Bool.and_eq_true, beq_iff_eq, Bool.not_eq_true', decide_eq_true_eq] at h5
  obtain ⟨⟨⟨⟨⟨g1, g2⟩, g3⟩, g4⟩, g5⟩, g6⟩ := h5
  simp [Cond.before, Cond.holds, Cond.value, h1, h2, h3, h4, g1, g2, g3, g4, g5, g6]
def isCode : Jvm.Cond → Bool
  | .code _ _ _ _ => true
  | _ => false
theorem all_split {L : List Jvm.Cond} {P : Jvm.Cond → Bool} (h1 : L.all (fun c => isCode c || P c) = true) (h2 : ∀ c ∈ L.filter isCode, P c = true) : L.all P = true := by
  refine List.all_eq_true.mpr fun c hc => ?_
  have h := List.all_eq_true.mp h1 c hc
  rcases Bool.eq_false_or_eq_true (isCode c) with hi | hi
  · exact h2 c (List.mem_filter.mpr ⟨hc, hi⟩)
  · simpa [hi] using h
set_option maxRecDepth 65536 in
theorem w_c0 : (Jvm.Cond.code x code maxLocals ret).before args0 about1 = true := code_word (m := ⟨1, 2⟩) (meth := k1m2) (c := k1c2) (by decide +kernel) rfl rfl rfl (by decide +kernel)
set_option maxRecDepth 65536 in
theorem w_c1 : (Jvm.Cond.code ({ cls := "com/example/plumbline/plumbline/document/Xml", name := "isCharacter", desc := "(I)Z" } : Jvm.MethodName) prog_92_method_4_code (1 : Nat) (Option.some Jvm.ClassFile.FieldType.boolean)).before args0 about1 = true := code_word (m := ⟨2, 1⟩) (meth := k2m1) (c := k2c1) (by decide +kernel) rfl rfl rfl (by decide +kernel)
set_option maxRecDepth 65536 in
theorem w_c2 : (Jvm.Cond.code ({ cls := "com/example/plumbline/plumbline/document/XmlIsCharacterPinLaw", name := "spec", desc := "(I)Z" } : Jvm.MethodName) method_2_code (1 : Nat) (Option.some Jvm.ClassFile.FieldType.boolean)).before args0 about1 = true := code_word (m := ⟨1, 1⟩) (meth := k1m1) (c := k1c1) (by decide +kernel) rfl rfl rfl (by decide +kernel)
def codes1 : List Jvm.Cond := [Jvm.Cond.code x code maxLocals ret, Jvm.Cond.code ({ cls := "com/example/plumbline/plumbline/document/Xml", name := "isCharacter", desc := "(I)Z" } : Jvm.MethodName) prog_92_method_4_code (1 : Nat) (Option.some Jvm.ClassFile.FieldType.boolean), Jvm.Cond.code ({ cls := "com/example/plumbline/plumbline/document/XmlIsCharacterPinLaw", name := "spec", desc := "(I)Z" } : Jvm.MethodName) method_2_code (1 : Nat) (Option.some Jvm.ClassFile.FieldType.boolean)]
set_option maxRecDepth 65536 in
theorem codes_eq : words1.filter isCode = codes1 := rfl
theorem w_codes : ∀ c ∈ words1.filter isCode, c.before args0 about1 = true := by
  rw [codes_eq]
  intro c hc
  simp only [codes1, List.mem_cons, List.not_mem_nil, or_false] at hc
  rcases hc with rfl | rfl | rfl
  · exact w_c0
  · exact w_c1
  · exact w_c2
set_option maxRecDepth 65536 in
theorem w_t1 : (words1.take 24).all (fun c => isCode c || c.before args0 about1) = true := by decide +kernel
set_option maxRecDepth 65536 in
theorem w_t2 : (words1.drop 24).all (fun c => isCode c || c.before args0 about1) = true := by decide +kernel
theorem w_tables : (allAtoms (Jvm.Cond.code x code maxLocals ret :: tables_1)).before args0 about1 = true := by
  rw [allAtoms_all]
  show words1.all (fun c => c.before args0 about1) = true
  refine all_split ?_ w_codes
  rw [← List.take_append_drop 24 words1, List.all_append, w_t1, w_t2]
  rfl
set_option maxRecDepth 65536 in
theorem w_case : (Jvm.Cond.and given_1 narrow_1).before args0 about1 = true := by decide +kernel
theorem w_applies : (headSpec (Jvm.Cond.code x code maxLocals ret :: tables_1) room_1).applies x e0.platform about1 = true :=
  (Spec.applies_iff w_frames).mpr ⟨w_running, w_runnable, w_alone, w_named, w_hears, w_ripe, w_room, w_tables⟩
theorem atStart : AtStart classFile x code maxLocals ret World_1 tables_1 room_1 Calls_1 rest_1 Pre_1 launch0 p0 e0 about1 theMethod args0 below0 :=
  ⟨lists_1, trivial, launch0.admits_env _ _ _, launch0.least_env, fairChoices_fair.cas, fairChoices_fair.clock, w_frames, w_args, w_heap, w_applies, trivial, trivial, w_case⟩
end start1
theorem witness_1 : WitnessClaimed_1 := ⟨start1.p0, start1.e0, start1.about1, start1.theMethod, start1.args0, start1.below0, start1.atStart⟩
end Jvm.Pilot.@@N@@
