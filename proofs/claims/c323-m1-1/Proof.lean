import JvmDerived
import JvmDerived.Pilot.@@N@@Statement
import JvmDerived.Pilot.@@N@@Code
set_option linter.unusedVariables false
set_option linter.unusedSimpArgs false
namespace Jvm.Pilot.@@N@@
open Jvm Jvm.ClassFile Sem Op Lib Jvm.Free Jvm.Stand Jvm.LawKit Jvm.RoadKit Bundle Jvm.Pilot.@@N@@.Jvm.D
section OwnKit
variable {p : Program} {l : Launch} {e : Env} {R : Room} {s : State} {m : MethodId} {args : Array Value} {below : List Frame} {meth : Method} {c : Code} {T : State} {locs : List Loc} {cells slots : Nat} {Z : State} {h h' : Heap} {a b : Addr} {kc ks : Nat} {Q : Option Value → Heap → List Loc → Prop}
/-- from U the run comes to the method's end, and Q says what is left there -/
def own_Ends (p : Program) (e : Env) (below : List Frame) (s : State) (kc ks : Nat) (Q : Option Value → Heap → List Loc → Prop) (U : State) : Prop :=
  ∃ s₂ o, Steps p.tables e below U s₂ ∧ s₂.status = .running ∧ Ended s₂ below o ∧ ∃ v L, o = .returned v ∧ Q v s₂.heap L ∧ FrameEnd s o s₂ L kc ks
theorem own_step {U U' : State} (k1 : ∀ t, Steps p.tables e below U' t → Steps p.tables e below U t) (k2 : own_Ends p e below s kc ks Q U') : own_Ends p e below s kc ks Q U := by
  obtain ⟨s₂, o, h1, r⟩ := k2
  exact ⟨s₂, o, k1 _ h1, r⟩
theorem own_cast {g g' : JFrame} (q : g = g') (k : own_Ends p e below s kc ks Q (T.setTop g')) : own_Ends p e below s kc ks Q (T.setTop g) := q ▸ k
theorem own_ret0 (X : Stand p l e R s m args below meth c T locs cells slots) (hx : p.tables.exec = Jvm.exec) (hlk : meth.locks = false) (hret : meth.sig.returnType = none) {pc : Nat} {Ls : Array Slot}
    (hd : decode c.code pc = .ok (.return_, 1)) (hq : Q none T.heap locs) (hk : cells ≤ kc) (hn : slots ≤ ks) : own_Ends p e below s kc ks Q (T.setTop (mkF m pc Ls [])) := by
  obtain ⟨fs, hr, hrun, hended, hW, hsame⟩ := X.leave (v := none) (fun _ => rfl) hlk
  exact ⟨_, _, X.returnOut hx hret hd hr, hrun, hended, _, _, rfl, hq, ⟨_, rfl⟩, hW, hsame.mono hk hn⟩
theorem own_retN (X : Stand p l e R s m args below meth c T locs cells slots) (hx : p.tables.exec = Jvm.exec) (hlk : meth.locks = false) {t : FieldType} (hret : meth.sig.returnType = some t) (ht : t = .boolean ∨ t = .byte ∨ t = .char ∨ t = .short) {pc : Nat} {Ls : Array Slot} {z : Int32} {rest : List Value}
    (hd : decode c.code pc = .ok (.ireturn, 1)) {w : Int32} (hw : nar t z = w) (hq : Q (some (.int w)) T.heap locs) (hk : cells ≤ kc) (hn : slots ≤ ks) : own_Ends p e below s kc ks Q (T.setTop (mkF m pc Ls (.int z :: rest))) := by
  subst hw
  obtain ⟨fs, hr, hrun, hended, hW, hsame⟩ := X.leave (v := some (.int (nar t z))) (fun h => by rw [hret] at h; cases h) hlk
  exact ⟨_, _, retN X hx hret ht hd hr, hrun, hended, _, _, rfl, hq, ⟨_, rfl⟩, hW, hsame.mono hk hn⟩
theorem own_retI (X : Stand p l e R s m args below meth c T locs cells slots) (hx : p.tables.exec = Jvm.exec) (hlk : meth.locks = false) (hret : meth.sig.returnType = some .int) {pc : Nat} {Ls : Array Slot} {z : Int32} {rest : List Value}
    (hd : decode c.code pc = .ok (.ireturn, 1)) (hq : Q (some (.int z)) T.heap locs) (hk : cells ≤ kc) (hn : slots ≤ ks) : own_Ends p e below s kc ks Q (T.setTop (mkF m pc Ls (.int z :: rest))) := by
  obtain ⟨fs, hr, hrun, hended, hW, hsame⟩ := X.leave (v := some (.int z)) (fun h => by rw [hret] at h; cases h) hlk
  exact ⟨_, _, retOut X hx hret rfl (Or.inl ⟨rfl, Or.inl rfl, _, rfl⟩) hd hr, hrun, hended, _, _, rfl, hq, ⟨_, rfl⟩, hW, hsame.mono hk hn⟩
theorem own_retL (X : Stand p l e R s m args below meth c T locs cells slots) (hx : p.tables.exec = Jvm.exec) (hlk : meth.locks = false) (hret : meth.sig.returnType = some .long) {pc : Nat} {Ls : Array Slot} {z : Int64} {rest : List Value}
    (hd : decode c.code pc = .ok (.lreturn, 1)) (hq : Q (some (.long z)) T.heap locs) (hk : cells ≤ kc) (hn : slots ≤ ks) : own_Ends p e below s kc ks Q (T.setTop (mkF m pc Ls (.long z :: rest))) := by
  obtain ⟨fs, hr, hrun, hended, hW, hsame⟩ := X.leave (v := some (.long z)) (fun h => by rw [hret] at h; cases h) hlk
  exact ⟨_, _, retOut X hx hret rfl (Or.inr (Or.inl ⟨rfl, rfl, _, rfl⟩)) hd hr, hrun, hended, _, _, rfl, hq, ⟨_, rfl⟩, hW, hsame.mono hk hn⟩
theorem own_retA (X : Stand p l e R s m args below meth c T locs cells slots) (hx : p.tables.exec = Jvm.exec) (hlk : meth.locks = false) {t : FieldType} (hret : meth.sig.returnType = some t) {pc : Nat} {Ls : Array Slot} {z : Addr} {rest : List Value} (ht : t.isReference = true) (hnw : narrow t (.ref z) = .ref z)
    (hd : decode c.code pc = .ok (.areturn, 1)) (hq : Q (some (.ref z)) T.heap locs) (hk : cells ≤ kc) (hn : slots ≤ ks) : own_Ends p e below s kc ks Q (T.setTop (mkF m pc Ls (.ref z :: rest))) := by
  obtain ⟨fs, hr, hrun, hended, hW, hsame⟩ := X.leave (v := some (.ref z)) (fun h => by rw [hret] at h; cases h) hlk
  exact ⟨_, _, retOut X hx hret hnw (Or.inr (Or.inr (Or.inr (Or.inr ⟨rfl, ht, rfl⟩)))) hd hr, hrun, hended, _, _, rfl, hq, ⟨_, rfl⟩, hW, hsame.mono hk hn⟩
theorem own_lrem {g : JFrame} {target : State} (X : Stand p l e R s m args below meth c T locs cells slots) (hx : p.tables.exec = Jvm.exec) (hg : g.method = m) {x y : Int64} {rest : List Value} (hd : decode c.code g.pc = .ok (.lrem, 1)) (hs : g.stack = .long y :: .long x :: rest) (hy : y ≠ 0)
    (hr : Steps p.tables e below (T.setTop { g with pc := g.pc + 1, stack := .long (x % y) :: rest }) target) : Steps p.tables e below (T.setTop g) target := by
  have q : x - x / y * y = x % y := lrem_mod x y
  exact XS.lrem X.here hx hg hd hs hy (by rw [q]; exact hr)
theorem own_pop2L {g : JFrame} {target : State} (X : Stand p l e R s m args below meth c T locs cells slots) (hx : p.tables.exec = Jvm.exec) (hg : g.method = m) {x : Int64} {rest : List Value} (hd : decode c.code g.pc = .ok (.pop2, 1)) (hs : g.stack = .long x :: rest)
    (hr : Steps p.tables e below (T.setTop { g with pc := g.pc + 1, stack := rest }) target) : Steps p.tables e below (T.setTop g) target := by
  subst hg
  jvm_step X.here [X.here.top, hx, hd, hs, Value.category]
  exact hr
/-! arrays, by what each place holds -/
def own_up {α : Type} (f : Nat → α) (i : Nat) (x : α) : Nat → α := fun k => if k = i then x else f k
def own_AI (Z : State) (h : Heap) (a : Addr) (ty : FieldType) (n : Nat) (f : Nat → Int32) : Prop := ∃ c : Cell, Arr Z h a c ty ∧ c.slots.size = n ∧ ∀ k, k < n → c.slots[k]? = some (.int (f k))
def own_AJ (Z : State) (h : Heap) (a : Addr) (n : Nat) (f : Nat → Int64) : Prop := ∃ c : Cell, Arr Z h a c .long ∧ c.slots.size = n ∧ ∀ k, k < n → c.slots[k]? = some (.long (f k))
theorem own_AI.lt {ty : FieldType} {n : Nat} {f : Nat → Int32} (A : own_AI Z h a ty n f) : a < h.size := by obtain ⟨c, A, -⟩ := A; exact A.lt
theorem own_AI.ext {ty : FieldType} {n : Nat} {f : Nat → Int32} (A : own_AI Z h a ty n f) (E : Ext h h') : own_AI Z h' a ty n f := by obtain ⟨c, A, r⟩ := A; exact ⟨c, A.ext E, r⟩
theorem own_AI.other {ty : FieldType} {n : Nat} {f : Nat → Int32} {sl : Nat} {v : Value} (A : own_AI Z h b ty n f) (W : Wr h h' a sl v) (q : b ≠ a) : own_AI Z h' b ty n f := by obtain ⟨c, A, r⟩ := A; exact ⟨c, A.other W q, r⟩
theorem own_AI.keep {ty : FieldType} {n : Nat} {f : Nat → Int32} {ws : List Addr} (A : own_AI Z h a ty n f) (K : Keep h h' ws) (q : a ∉ ws) : own_AI Z h' a ty n f := by obtain ⟨c, A, r⟩ := A; exact ⟨c, ⟨K.2.1 a c A.1 q, A.2⟩, r⟩
theorem own_AJ.lt {n : Nat} {f : Nat → Int64} (A : own_AJ Z h a n f) : a < h.size := by obtain ⟨c, A, -⟩ := A; exact A.lt
theorem own_AJ.ext {n : Nat} {f : Nat → Int64} (A : own_AJ Z h a n f) (E : Ext h h') : own_AJ Z h' a n f := by obtain ⟨c, A, r⟩ := A; exact ⟨c, A.ext E, r⟩
theorem own_idx {j : Int32} {i n : Nat} {cl : Cell} (hi : j.toInt = (i : Int)) (hn : i < n) (hs : cl.slots.size = n) : ¬ (j < 0 ∨ cl.slots.size ≤ j.toNatClampNeg) ∧ j.toNatClampNeg = i := by
  have e : j.toNatClampNeg = i := by
    show j.toInt.toNat = i
    omega
  refine ⟨?_, e⟩
  rw [e, hs]
  intro q
  rcases q with q | q
  · rw [Int32.lt_iff_toInt_lt, hi] at q
    have z : (0 : Int32).toInt = 0 := by decide
    omega
  · omega
theorem own_set {n : Nat} {cl : Cell} {i : Nat} {v : Value} {g : Nat → Value} (hs : cl.slots.size = n) (hn : i < n) (hf : ∀ k, k < n → cl.slots[k]? = some (g k)) : (cl.setSlot i v).slots.size = n ∧ ∀ k, k < n → (cl.setSlot i v).slots[k]? = some (if k = i then v else g k) := by
  refine ⟨by rw [sz_set]; exact hs, fun k hk => ?_⟩
  by_cases q : k = i
  · subst q; simp [Cell.setSlot, hs, hn]
  · have : (cl.setSlot i v).slots[k]? = cl.slots[k]? := Array.getElem?_setIfInBounds_ne (fun z => q z.symm)
    rw [this, hf k hk, if_neg q]
theorem own_stI (X : Stand p l e R s m args below meth c T locs cells slots) (hx : p.tables.exec = Jvm.exec) (hZ : Z.Warmed39 s.vm) (eT : T.heap = h) {n : Nat} {f : Nat → Int32} (A : own_AI Z h a .int n f) {j x : Int32} (i : Nat) (hi : j.toInt = (i : Int)) (hn : i < n) {g : JFrame} (hg : g.method = m) {rest : List Value} (hs : g.stack = .int x :: .int j :: .ref a :: rest) (hd : decode c.code g.pc = .ok (.iastore, 1)) :
    ∃ T' h', Stand p l e R s m args below meth c T' (locs ++ [⟨a, i⟩]) cells slots ∧ T'.heap = h' ∧ Wr h h' a i (.int x) ∧ own_AI Z h' a .int n (own_up f i x) ∧ ∀ target, Steps p.tables e below (T'.setTop { g with pc := g.pc + 1, stack := rest }) target → Steps p.tables e below (T.setTop g) target := by
  obtain ⟨cl, A1, A2, A3⟩ := A
  obtain ⟨q1, q2⟩ := own_idx hi hn A2
  obtain ⟨T', h', X', e', W, st⟩ := stI X hx hZ eT A1 q1 hg hs hd
  rw [q2] at X' W
  obtain ⟨r1, r2⟩ := own_set (v := .int x) A2 hn A3
  refine ⟨T', h', X', e', W, ⟨cl.setSlot i (.int x), A1.same W, r1, fun k hk => ?_⟩, st⟩
  rw [r2 k hk]
  by_cases q : k = i
  · simp [own_up, q]
  · simp [own_up, q]
theorem own_stB (X : Stand p l e R s m args below meth c T locs cells slots) (hx : p.tables.exec = Jvm.exec) (hZ : Z.Warmed39 s.vm) (eT : T.heap = h) {n : Nat} {f : Nat → Int32} (A : own_AI Z h a .byte n f) {j x : Int32} (i : Nat) (hi : j.toInt = (i : Int)) (hn : i < n) {g : JFrame} (hg : g.method = m) {rest : List Value} (hs : g.stack = .int x :: .int j :: .ref a :: rest) (hd : decode c.code g.pc = .ok (.bastore, 1)) :
    ∃ T' h', Stand p l e R s m args below meth c T' (locs ++ [⟨a, i⟩]) cells slots ∧ T'.heap = h' ∧ Wr h h' a i (.int (x.toInt8.toInt32)) ∧ own_AI Z h' a .byte n (own_up f i (x.toInt8.toInt32)) ∧ ∀ target, Steps p.tables e below (T'.setTop { g with pc := g.pc + 1, stack := rest }) target → Steps p.tables e below (T.setTop g) target := by
  obtain ⟨cl, A1, A2, A3⟩ := A
  obtain ⟨q1, q2⟩ := own_idx hi hn A2
  obtain ⟨T', h', X', e', W, st⟩ := stB X hx hZ eT A1 q1 hg hs hd
  rw [q2] at X' W
  obtain ⟨r1, r2⟩ := own_set (v := .int (x.toInt8.toInt32)) A2 hn A3
  refine ⟨T', h', X', e', W, ⟨cl.setSlot i (.int (x.toInt8.toInt32)), A1.same W, r1, fun k hk => ?_⟩, st⟩
  rw [r2 k hk]
  by_cases q : k = i
  · simp [own_up, q]
  · simp [own_up, q]
theorem own_stJ (X : Stand p l e R s m args below meth c T locs cells slots) (hx : p.tables.exec = Jvm.exec) (hZ : Z.Warmed39 s.vm) (eT : T.heap = h) {n : Nat} {f : Nat → Int64} (A : own_AJ Z h a n f) {j : Int32} {x : Int64} (i : Nat) (hi : j.toInt = (i : Int)) (hn : i < n) {g : JFrame} (hg : g.method = m) {rest : List Value} (hs : g.stack = .long x :: .int j :: .ref a :: rest) (hd : decode c.code g.pc = .ok (.lastore, 1)) :
    ∃ T' h', Stand p l e R s m args below meth c T' (locs ++ [⟨a, i⟩]) cells slots ∧ T'.heap = h' ∧ Wr h h' a i (.long x) ∧ own_AJ Z h' a n (own_up f i x) ∧ ∀ target, Steps p.tables e below (T'.setTop { g with pc := g.pc + 1, stack := rest }) target → Steps p.tables e below (T.setTop g) target := by
  obtain ⟨cl, A1, A2, A3⟩ := A
  obtain ⟨q1, q2⟩ := own_idx hi hn A2
  obtain ⟨T', h', X', e', W, st⟩ := stJ X hx hZ eT A1 q1 hg hs hd
  rw [q2] at X' W
  obtain ⟨r1, r2⟩ := own_set (v := .long x) A2 hn A3
  refine ⟨T', h', X', e', W, ⟨cl.setSlot i (.long x), A1.same W, r1, fun k hk => ?_⟩, st⟩
  rw [r2 k hk]
  by_cases q : k = i
  · simp [own_up, q]
  · simp [own_up, q]
theorem own_ldI (X : Stand p l e R s m args below meth c T locs cells slots) (hx : p.tables.exec = Jvm.exec) (hZ : Z.Warmed39 s.vm) (eT : T.heap = h) {n : Nat} {f : Nat → Int32} (A : own_AI Z h a .int n f) {j : Int32} (i : Nat) (hi : j.toInt = (i : Int)) (hn : i < n) {g : JFrame} (hg : g.method = m) {rest : List Value} (hs : g.stack = .int j :: .ref a :: rest) (hd : decode c.code g.pc = .ok (.iaload, 1)) :
    ∀ target, Steps p.tables e below (T.setTop { g with pc := g.pc + 1, stack := .int (f i) :: rest }) target → Steps p.tables e below (T.setTop g) target := by
  obtain ⟨cl, A1, A2, A3⟩ := A
  obtain ⟨q1, q2⟩ := own_idx hi hn A2
  exact X.iaload hx (j := j) (v := .int (f i)) (by rw [eT]; exact A1.1) (State.isArrayOf_alike hZ.alike A1.2.1) A1.2.2 q1 (by rw [q2]; exact A3 i hn) hg hs hd
theorem own_ldB (X : Stand p l e R s m args below meth c T locs cells slots) (hx : p.tables.exec = Jvm.exec) (hZ : Z.Warmed39 s.vm) (eT : T.heap = h) {n : Nat} {f : Nat → Int32} (A : own_AI Z h a .byte n f) {j : Int32} (i : Nat) (hi : j.toInt = (i : Int)) (hn : i < n) {g : JFrame} (hg : g.method = m) {rest : List Value} (hs : g.stack = .int j :: .ref a :: rest) (hd : decode c.code g.pc = .ok (.baload, 1)) :
    ∀ target, Steps p.tables e below (T.setTop { g with pc := g.pc + 1, stack := .int (f i) :: rest }) target → Steps p.tables e below (T.setTop g) target := by
  obtain ⟨cl, A1, A2, A3⟩ := A
  obtain ⟨q1, q2⟩ := own_idx hi hn A2
  exact X.baloadBytes hx (j := j) (v := .int (f i)) (by rw [eT]; exact A1.1) (State.isArrayOf_alike hZ.alike A1.2.1) A1.2.2 q1 (by rw [q2]; exact A3 i hn) hg hs hd
theorem own_ldJ (X : Stand p l e R s m args below meth c T locs cells slots) (hx : p.tables.exec = Jvm.exec) (hZ : Z.Warmed39 s.vm) (eT : T.heap = h) {n : Nat} {f : Nat → Int64} (A : own_AJ Z h a n f) {j : Int32} (i : Nat) (hi : j.toInt = (i : Int)) (hn : i < n) {g : JFrame} (hg : g.method = m) {rest : List Value} (hs : g.stack = .int j :: .ref a :: rest) (hd : decode c.code g.pc = .ok (.laload, 1)) :
    ∀ target, Steps p.tables e below (T.setTop { g with pc := g.pc + 1, stack := .long (f i) :: rest }) target → Steps p.tables e below (T.setTop g) target := by
  obtain ⟨cl, A1, A2, A3⟩ := A
  obtain ⟨q1, q2⟩ := own_idx hi hn A2
  exact X.laload hx (j := j) (v := .long (f i)) (by rw [eT]; exact A1.1) (State.isArrayOf_alike hZ.alike A1.2.1) A1.2.2 q1 (by rw [q2]; exact A3 i hn) hg hs hd
theorem own_lenI (X : Stand p l e R s m args below meth c T locs cells slots) (hx : p.tables.exec = Jvm.exec) (hZ : Z.Warmed39 s.vm) (eT : T.heap = h) {ty : FieldType} {n : Nat} {f : Nat → Int32} (A : own_AI Z h a ty n f) {z : Int32} (hz : n.toInt32 = z) {g : JFrame} (hg : g.method = m) {rest : List Value} (hs : g.stack = .ref a :: rest) (hd : decode c.code g.pc = .ok (.arraylength, 1)) :
    ∀ target, Steps p.tables e below (T.setTop { g with pc := g.pc + 1, stack := .int z :: rest }) target → Steps p.tables e below (T.setTop g) target := by
  obtain ⟨cl, A1, A2, A3⟩ := A
  intro t k
  refine X.arraylength hx (by rw [eT]; exact A1.1) (State.isArrayOf_alike hZ.alike A1.2.1) hg hs hd t ?_
  rw [A2, hz]; exact k
theorem own_newI (X : Stand p l e R s m args below meth c T locs cells slots) (hx : p.tables.exec = Jvm.exec) (hZ : Z.Warmed39 s.vm) {a0 : Array Value} {aty : ArrayType} (w : (Cond.arrayClass (newarray.typeOf aty)).before a0 Z = true) (eT : T.heap = h) {g : JFrame} (hg : g.method = m) (hd : decode c.code g.pc = .ok (.newarray aty, 2)) {n : Int32} {rest : List Value} (hs : g.stack = .int n :: rest)
    {N : Nat} (hn : n.toInt = (N : Int)) (hb : N * 8 ≤ 536870912) (hc : cells + 1 ≤ R.cells) (hl : slots + N ≤ R.slots) (hdv : defaultValue (newarray.typeOf aty) = .int 0) :
    ∃ T' h', Stand p l e R s m args below meth c T' locs (cells + 1) (slots + N) ∧ T'.heap = h' ∧ Ext h h' ∧ own_AI Z h' h.size (newarray.typeOf aty) N (fun _ => 0) ∧
      ∀ target, Steps p.tables e below (T'.setTop { g with pc := g.pc + 2, stack := .ref h.size :: rest }) target → Steps p.tables e below (T.setTop g) target := by
  have e1 : n.toNatClampNeg = N := by
    show n.toInt.toNat = N
    omega
  have e2 : ¬ n < 0 := by
    rw [Int32.lt_iff_toInt_lt, hn]
    have z : (0 : Int32).toInt = 0 := by decide
    omega
  obtain ⟨T', h', cA, X', e', E, A, st⟩ := newP X hx hZ w eT hg hd hs e2 (cap := N) (by omega) hb hc hl
  refine ⟨T', h', X', e', E, ⟨_, A, by rw [sz_new, e1], fun k hk => ?_⟩, st⟩
  simp [newA, e1, hk, hdv]
theorem own_newJ (X : Stand p l e R s m args below meth c T locs cells slots) (hx : p.tables.exec = Jvm.exec) (hZ : Z.Warmed39 s.vm) {a0 : Array Value} (w : (Cond.arrayClass (newarray.typeOf .long)).before a0 Z = true) (eT : T.heap = h) {g : JFrame} (hg : g.method = m) (hd : decode c.code g.pc = .ok (.newarray .long, 2)) {n : Int32} {rest : List Value} (hs : g.stack = .int n :: rest)
    {N : Nat} (hn : n.toInt = (N : Int)) (hb : N * 8 ≤ 536870912) (hc : cells + 1 ≤ R.cells) (hl : slots + N ≤ R.slots) :
    ∃ T' h', Stand p l e R s m args below meth c T' locs (cells + 1) (slots + N) ∧ T'.heap = h' ∧ Ext h h' ∧ own_AJ Z h' h.size N (fun _ => 0) ∧
      ∀ target, Steps p.tables e below (T'.setTop { g with pc := g.pc + 2, stack := .ref h.size :: rest }) target → Steps p.tables e below (T.setTop g) target := by
  have e1 : n.toNatClampNeg = N := by
    show n.toInt.toNat = N
    omega
  have e2 : ¬ n < 0 := by
    rw [Int32.lt_iff_toInt_lt, hn]
    have z : (0 : Int32).toInt = 0 := by decide
    omega
  obtain ⟨T', h', cA, X', e', E, A, st⟩ := newP X hx hZ w eT hg hd hs e2 (cap := N) (by omega) hb hc hl
  refine ⟨T', h', X', e', E, ⟨_, A, by rw [sz_new, e1], fun k hk => ?_⟩, st⟩
  simp [newA, e1, hk, defaultValue, newarray.typeOf]
end OwnKit
theorem d2_0 : decode jdk_30_method_1_code 0 = .ok (.aload_n 0, 1) := by decide +kernel
theorem d2_1 : decode jdk_30_method_1_code 1 = .ok (.invokespecial 1, 3) := by decide +kernel
theorem d2_4 : decode jdk_30_method_1_code 4 = .ok (.return_, 1) := by decide +kernel
theorem pn_2 : plainName "java/lang/Record" = true := by first | (simp [plainName, overriddenIn]; done) | decide +kernel
theorem ef_2 (m : MethodId) (r0 : Addr) : entryFrame m #[(.ref r0)] 1 = mkF m 0 #[.val (.ref r0)] [] := by first | (simp [entryFrame, mkF, argsToLocals, Value.category]; done) | rfl
def Q2 (Z : State) (r0 : Addr) (h0 : Heap) (n0 : Nat) (v : Option Value) (h : Heap) (L : List Loc) : Prop := v = none ∧ Fr n0 L ∧ h = h0
set_option maxRecDepth 65536 in
set_option maxHeartbeats 40000000 in
theorem rm2 (l : Launch) (Z : State) (a0 : Array Value) (hw : ∀ d ∈ tables_1, d.before a0 Z = true) (ws : List Jvm.Cond) (r0 : Addr) (h0 : Heap) (n0 : Nat) :
    MetFree l (⟨"java/lang/Record", "<init>", "()V"⟩ : MethodName) (head1 (Jvm.Cond.code (⟨"java/lang/Record", "<init>", "()V"⟩ : MethodName) jdk_30_method_1_code 1 none :: ws) ({ frames := 1, cells := 0, slots := 0, locals := 12 } : Room)) (fun a U => a = #[(.ref r0)] ∧ Z.Warmed39 U.vm ∧ U.heap = h0) (fun _ _ _ _ _ => True) (fun _ U o U' => ∃ v L, o = .returned v ∧ (Q2 Z r0 h0 n0) v U'.heap L ∧ FrameEnd U o U' L ({ frames := 1, cells := 0, slots := 0, locals := 12 } : Room).cells ({ frames := 1, cells := 0, slots := 0, locals := 12 } : Room).slots) := by
  refine MetFree.of_bodySF (plainFor_of_name pn_2) hisR ?_
  intro p e s m args below meth c s₁ Bd hml0 hP hK
  obtain ⟨rfl, hZ, hh⟩ := hP
  have hx := Bd.exec
  have hby := Bd.bytes
  have hret := Bd.returns
  have hlk := BodyLoose.notSynchronized Bd
  have hml : c.maxLocals = 1 := hml0
  have hown : s.vm.findClass "java/lang/Record" = some m.cls := findClass_of_methodNamed Bd.named
  have hnm := (name_of_methodNamed Bd.named Bd.method).1
  have X0 : Stand p l e ({ frames := 1, cells := 0, slots := 0, locals := 12 } : Room) s m #[(.ref r0)] below meth c s₁ [] 0 0 := Stand.of_body Bd
  have e0 : s₁.heap = h0 := by rw [← hh, Bd.state]; rfl
  have N0 := Fr.nil n0
  show own_Ends p e below s ({ frames := 1, cells := 0, slots := 0, locals := 12 } : Room).cells ({ frames := 1, cells := 0, slots := 0, locals := 12 } : Room).slots (Q2 Z r0 h0 n0) (s₁.setTop (entryFrame m #[(.ref r0)] 1))
  refine own_cast (ef_2 m r0) ?_
  show own_Ends p e below s _ _ _ (s₁.setTop (mkF m 0 #[.val (.ref r0)] []))
  refine own_step (fun t k => XS.aloadN X0.here hx rfl (hb hby d2_0) rfl rfl k) ?_
  show own_Ends p e below s _ _ _ (s₁.setTop (mkF m 1 #[.val (.ref r0)] [(.ref r0)]))
  obtain ⟨T1, X1, e1, st1⟩ := initO X0 hx hZ hown (hw _ (List.mem_of_getElem? (i := 11) rfl)) (hw _ (List.mem_of_getElem? (i := 12) rfl)) (hw _ (List.mem_of_getElem? (i := 13) rfl)) e0 (g := (mkF m 1 #[.val (.ref r0)] [(.ref r0)])) rfl (by rw [hml]; rfl) rfl (hb hby d2_1) (by decide) (W := 0) (by show 2 * 0 + _ ≤ _; exact Nat.le_of_eq rfl) (by decide)
  refine own_step st1 ?_
  show own_Ends p e below s _ _ _ (T1.setTop (mkF m 4 #[.val (.ref r0)] []))
  exact own_ret0 X1 hx hlk hret (hb hby d2_4) ⟨rfl, N0, e1⟩ (by decide) (by decide)
theorem d1_0 : decode prog_36_method_1_code 0 = .ok (.aload_n 0, 1) := by decide +kernel
theorem d1_1 : decode prog_36_method_1_code 1 = .ok (.invokespecial 1, 3) := by decide +kernel
theorem d1_4 : decode prog_36_method_1_code 4 = .ok (.aload_n 0, 1) := by decide +kernel
theorem d1_5 : decode prog_36_method_1_code 5 = .ok (.lload_n 1, 1) := by decide +kernel
theorem d1_6 : decode prog_36_method_1_code 6 = .ok (.putfield 7, 3) := by decide +kernel
theorem d1_9 : decode prog_36_method_1_code 9 = .ok (.aload_n 0, 1) := by decide +kernel
theorem d1_10 : decode prog_36_method_1_code 10 = .ok (.lload_n 3, 1) := by decide +kernel
theorem d1_11 : decode prog_36_method_1_code 11 = .ok (.putfield 13, 3) := by decide +kernel
theorem d1_14 : decode prog_36_method_1_code 14 = .ok (.aload_n 0, 1) := by decide +kernel
theorem d1_15 : decode prog_36_method_1_code 15 = .ok (.lload 5, 2) := by decide +kernel
theorem d1_17 : decode prog_36_method_1_code 17 = .ok (.putfield 16, 3) := by decide +kernel
theorem d1_20 : decode prog_36_method_1_code 20 = .ok (.aload_n 0, 1) := by decide +kernel
theorem d1_21 : decode prog_36_method_1_code 21 = .ok (.lload 7, 2) := by decide +kernel
theorem d1_23 : decode prog_36_method_1_code 23 = .ok (.putfield 19, 3) := by decide +kernel
theorem d1_26 : decode prog_36_method_1_code 26 = .ok (.aload_n 0, 1) := by decide +kernel
theorem d1_27 : decode prog_36_method_1_code 27 = .ok (.lload 9, 2) := by decide +kernel
theorem d1_29 : decode prog_36_method_1_code 29 = .ok (.putfield 22, 3) := by decide +kernel
theorem d1_32 : decode prog_36_method_1_code 32 = .ok (.aload_n 0, 1) := by decide +kernel
theorem d1_33 : decode prog_36_method_1_code 33 = .ok (.lload 11, 2) := by decide +kernel
theorem d1_35 : decode prog_36_method_1_code 35 = .ok (.putfield 25, 3) := by decide +kernel
theorem d1_38 : decode prog_36_method_1_code 38 = .ok (.aload_n 0, 1) := by decide +kernel
theorem d1_39 : decode prog_36_method_1_code 39 = .ok (.lload 13, 2) := by decide +kernel
theorem d1_41 : decode prog_36_method_1_code 41 = .ok (.putfield 28, 3) := by decide +kernel
theorem d1_44 : decode prog_36_method_1_code 44 = .ok (.aload_n 0, 1) := by decide +kernel
theorem d1_45 : decode prog_36_method_1_code 45 = .ok (.lload 15, 2) := by decide +kernel
theorem d1_47 : decode prog_36_method_1_code 47 = .ok (.putfield 31, 3) := by decide +kernel
theorem d1_50 : decode prog_36_method_1_code 50 = .ok (.return_, 1) := by decide +kernel
theorem pn_1 : plainName "com/example/hop_mutex/hopmutex/command/Simulation$Figures" = true := by first | (simp [plainName, overriddenIn]; done) | decide +kernel
theorem ef_1 (m : MethodId) (r0 : Addr) (q1 : Int64) (q2 : Int64) (q3 : Int64) (q4 : Int64) (q5 : Int64) (q6 : Int64) (q7 : Int64) (q8 : Int64) : entryFrame m #[(.ref r0), (.long q1), (.long q2), (.long q3), (.long q4), (.long q5), (.long q6), (.long q7), (.long q8)] 17 = mkF m 0 #[.val (.ref r0), .val (.long q1), .second, .val (.long q2), .second, .val (.long q3), .second, .val (.long q4), .second, .val (.long q5), .second, .val (.long q6), .second, .val (.long q7), .second, .val (.long q8), .second] [] := by first | (simp [entryFrame, mkF, argsToLocals, Value.category]; done) | rfl
theorem pd1_0 : parseMethodDescriptor "()V" = some ⟨[], none⟩ := by decide +kernel
def Q1 (Z : State) (r0 : Addr) (q1 : Int64) (q2 : Int64) (q3 : Int64) (q4 : Int64) (q5 : Int64) (q6 : Int64) (q7 : Int64) (q8 : Int64) (h0 : Heap) (n0 : Nat) (v : Option Value) (h : Heap) (L : List Loc) : Prop := v = none ∧ Fr n0 L ∧ n0 ≤ h.size ∧ Keep h0 h [r0] ∧ Exa Z h r0 "com/example/hop_mutex/hopmutex/command/Simulation$Figures" ∧ Fld Z h r0 "com/example/hop_mutex/hopmutex/command/Simulation$Figures" "entries" "J" (.long q1) ∧ Fld Z h r0 "com/example/hop_mutex/hopmutex/command/Simulation$Figures" "completed" "J" (.long q2) ∧ Fld Z h r0 "com/example/hop_mutex/hopmutex/command/Simulation$Figures" "messages" "J" (.long q3) ∧ Fld Z h r0 "com/example/hop_mutex/hopmutex/command/Simulation$Figures" "entryDelayMax" "J" (.long q4) ∧ Fld Z h r0 "com/example/hop_mutex/hopmutex/command/Simulation$Figures" "syncDelays" "J" (.long q5) ∧ Fld Z h r0 "com/example/hop_mutex/hopmutex/command/Simulation$Figures" "syncDelayMax" "J" (.long q6) ∧ Fld Z h r0 "com/example/hop_mutex/hopmutex/command/Simulation$Figures" "syncDelayTotal" "J" (.long q7) ∧ Fld Z h r0 "com/example/hop_mutex/hopmutex/command/Simulation$Figures" "overlaps" "J" (.long q8)
set_option maxRecDepth 65536 in
set_option maxHeartbeats 40000000 in
theorem rm1 (l : Launch) (Z : State) (a0 : Array Value) (hw : ∀ d ∈ tables_1, d.before a0 Z = true) (ws : List Jvm.Cond) (r0 : Addr) (q1 : Int64) (q2 : Int64) (q3 : Int64) (q4 : Int64) (q5 : Int64) (q6 : Int64) (q7 : Int64) (q8 : Int64) (h0 : Heap) (n0 : Nat) (Z0 : n0 ≤ h0.size) (gn_r0 : n0 ≤ r0) (E_0 : Exa Z h0 r0 "com/example/hop_mutex/hopmutex/command/Simulation$Figures") (F_entries : Fld Z h0 r0 "com/example/hop_mutex/hopmutex/command/Simulation$Figures" "entries" "J" (.long (0 : Int64))) (F_completed : Fld Z h0 r0 "com/example/hop_mutex/hopmutex/command/Simulation$Figures" "completed" "J" (.long (0 : Int64))) (F_messages : Fld Z h0 r0 "com/example/hop_mutex/hopmutex/command/Simulation$Figures" "messages" "J" (.long (0 : Int64))) (F_entryDelayMax : Fld Z h0 r0 "com/example/hop_mutex/hopmutex/command/Simulation$Figures" "entryDelayMax" "J" (.long (0 : Int64))) (F_syncDelays : Fld Z h0 r0 "com/example/hop_mutex/hopmutex/command/Simulation$Figures" "syncDelays" "J" (.long (0 : Int64))) (F_syncDelayMax : Fld Z h0 r0 "com/example/hop_mutex/hopmutex/command/Simulation$Figures" "syncDelayMax" "J" (.long (0 : Int64))) (F_syncDelayTotal : Fld Z h0 r0 "com/example/hop_mutex/hopmutex/command/Simulation$Figures" "syncDelayTotal" "J" (.long (0 : Int64))) (F_overlaps : Fld Z h0 r0 "com/example/hop_mutex/hopmutex/command/Simulation$Figures" "overlaps" "J" (.long (0 : Int64))) :
    MetFree l (⟨"com/example/hop_mutex/hopmutex/command/Simulation$Figures", "<init>", "(JJJJJJJJ)V"⟩ : MethodName) (head1 (Jvm.Cond.code (⟨"com/example/hop_mutex/hopmutex/command/Simulation$Figures", "<init>", "(JJJJJJJJ)V"⟩ : MethodName) prog_36_method_1_code 17 none :: ws) ({ frames := 2, cells := 0, slots := 0, locals := 24 } : Room)) (fun a U => a = #[(.ref r0), (.long q1), (.long q2), (.long q3), (.long q4), (.long q5), (.long q6), (.long q7), (.long q8)] ∧ Z.Warmed39 U.vm ∧ U.heap = h0) (fun _ _ _ _ _ => True) (fun _ U o U' => ∃ v L, o = .returned v ∧ (Q1 Z r0 q1 q2 q3 q4 q5 q6 q7 q8 h0 n0) v U'.heap L ∧ FrameEnd U o U' L ({ frames := 2, cells := 0, slots := 0, locals := 24 } : Room).cells ({ frames := 2, cells := 0, slots := 0, locals := 24 } : Room).slots) := by
  refine MetFree.of_bodySF (plainFor_of_name pn_1) hisR ?_
  intro p e s m args below meth c s₁ Bd hml0 hP hK
  obtain ⟨rfl, hZ, hh⟩ := hP
  have hx := Bd.exec
  have hby := Bd.bytes
  have hret := Bd.returns
  have hlk := BodyLoose.notSynchronized Bd
  have hml : c.maxLocals = 17 := hml0
  have hown : s.vm.findClass "com/example/hop_mutex/hopmutex/command/Simulation$Figures" = some m.cls := findClass_of_methodNamed Bd.named
  have hnm := (name_of_methodNamed Bd.named Bd.method).1
  have X0 : Stand p l e ({ frames := 2, cells := 0, slots := 0, locals := 24 } : Room) s m #[(.ref r0), (.long q1), (.long q2), (.long q3), (.long q4), (.long q5), (.long q6), (.long q7), (.long q8)] below meth c s₁ [] 0 0 := Stand.of_body Bd
  have e0 : s₁.heap = h0 := by rw [← hh, Bd.state]; rfl
  have N0 := Fr.nil n0
  show own_Ends p e below s ({ frames := 2, cells := 0, slots := 0, locals := 24 } : Room).cells ({ frames := 2, cells := 0, slots := 0, locals := 24 } : Room).slots (Q1 Z r0 q1 q2 q3 q4 q5 q6 q7 q8 h0 n0) (s₁.setTop (entryFrame m #[(.ref r0), (.long q1), (.long q2), (.long q3), (.long q4), (.long q5), (.long q6), (.long q7), (.long q8)] 17))
  refine own_cast (ef_1 m r0 q1 q2 q3 q4 q5 q6 q7 q8) ?_
  have u1 := (Keep.refl h0 [r0])
  show own_Ends p e below s _ _ _ (s₁.setTop (mkF m 0 #[.val (.ref r0), .val (.long q1), .second, .val (.long q2), .second, .val (.long q3), .second, .val (.long q4), .second, .val (.long q5), .second, .val (.long q6), .second, .val (.long q7), .second, .val (.long q8), .second] []))
  refine own_step (fun t k => XS.aloadN X0.here hx rfl (hb hby d1_0) rfl rfl k) ?_
  show own_Ends p e below s _ _ _ (s₁.setTop (mkF m 1 #[.val (.ref r0), .val (.long q1), .second, .val (.long q2), .second, .val (.long q3), .second, .val (.long q4), .second, .val (.long q5), .second, .val (.long q6), .second, .val (.long q7), .second, .val (.long q8), .second] [(.ref r0)]))
  obtain ⟨_, _, ⟨T2, L2, k2, n2⟩, -, X2, ⟨Lc2, hQ2, l2, y2, z2⟩, st2⟩ := X0.specialBack hx (y := (⟨"java/lang/Record", "<init>", "()V"⟩ : MethodName)) rfl hown (mvT hZ (hw _ (List.mem_of_getElem? (i := 6) rfl))) (mvT hZ (hw _ (List.mem_of_getElem? (i := 7) rfl))) (mvT hZ (hw _ (List.mem_of_getElem? (i := 10) rfl))) (by decide) (backOf (W := 0) (rm2 l Z a0 hw [] r0 h0 n0) hZ (hw _ (List.mem_of_getElem? (i := 10) rfl)) (hw _ (List.mem_of_getElem? (i := 9) rfl)) (by decide) (by decide)) (g := (mkF m 1 #[.val (.ref r0), .val (.long q1), .second, .val (.long q2), .second, .val (.long q3), .second, .val (.long q4), .second, .val (.long q5), .second, .val (.long q6), .second, .val (.long q7), .second, .val (.long q8), .second] [(.ref r0)])) rfl (by rw [hml]; rfl) (Steps.refl _) (a := r0) (argsL := []) (rest := []) (lenOf pd1_0 rfl) rfl (by show 2 * 0 + _ ≤ _; exact Nat.le_of_eq rfl) (hb hby d1_1) (fun _ _ => ⟨rfl, e0, (by decide : 0 + 0 ≤ _), (by decide : 0 + 0 ≤ _)⟩)
  dsimp only [Pt.U, Pt.locs, Pt.cells, Pt.slots] at X2 l2 y2 z2 st2 hQ2
  subst l2 y2 z2
  obtain ⟨rfl, N2q, e2⟩ := hQ2
  have N2 := Fr.app N0 N2q
  refine own_step (fun t k => st2.trans k) ?_
  show own_Ends p e below s _ _ _ (T2.setTop (mkF m 4 #[.val (.ref r0), .val (.long q1), .second, .val (.long q2), .second, .val (.long q3), .second, .val (.long q4), .second, .val (.long q5), .second, .val (.long q6), .second, .val (.long q7), .second, .val (.long q8), .second] []))
  refine own_step (fun t k => XS.aloadN X2.here hx rfl (hb hby d1_4) rfl rfl k) ?_
  show own_Ends p e below s _ _ _ (T2.setTop (mkF m 5 #[.val (.ref r0), .val (.long q1), .second, .val (.long q2), .second, .val (.long q3), .second, .val (.long q4), .second, .val (.long q5), .second, .val (.long q6), .second, .val (.long q7), .second, .val (.long q8), .second] [(.ref r0)]))
  refine own_step (fun t k => XS.lloadN X2.here hx rfl (hb hby d1_5) rfl k) ?_
  show own_Ends p e below s _ _ _ (T2.setTop (mkF m 6 #[.val (.ref r0), .val (.long q1), .second, .val (.long q2), .second, .val (.long q3), .second, .val (.long q4), .second, .val (.long q5), .second, .val (.long q6), .second, .val (.long q7), .second, .val (.long q8), .second] [(.long q1), (.ref r0)]))
  obtain ⟨T3, h3, X3, e3, W3, st3⟩ := putF X2 hx hZ hown (host := "") (Or.inl (hw _ (List.mem_of_getElem? (i := 14) rfl))) Via.refl e2 F_entries E_0 (Or.inr ⟨(hw _ (List.mem_of_getElem? (i := 15) rfl)), rfl, hnm⟩) (hw _ (List.mem_of_getElem? (i := 1) rfl)) (ty := .long) (by decide) rfl rfl (g := (mkF m 6 #[.val (.ref r0), .val (.long q1), .second, .val (.long q2), .second, .val (.long q3), .second, .val (.long q4), .second, .val (.long q5), .second, .val (.long q6), .second, .val (.long q7), .second, .val (.long q8), .second] [(.long q1), (.ref r0)])) rfl rfl (hb hby d1_6)
  refine own_step st3 ?_
  have N3 := Fr.snoc X3 N2 gn_r0
  have Z3 : n0 ≤ h3.size := by rw [W3.size]; exact Z0
  have u4 := (E_0.wr W3)
  have u5 := (F_entries.same W3)
  have u6 := (F_completed.other W3 (Or.inr (slot_ne (Or.inr (hw _ (List.mem_of_getElem? (i := 17) rfl))) (Or.inr (hw _ (List.mem_of_getElem? (i := 15) rfl))) (by decide) (t := .long) (t' := .long) (by decide) (by decide))))
  have u7 := (F_messages.other W3 (Or.inr (slot_ne (Or.inr (hw _ (List.mem_of_getElem? (i := 19) rfl))) (Or.inr (hw _ (List.mem_of_getElem? (i := 15) rfl))) (by decide) (t := .long) (t' := .long) (by decide) (by decide))))
  have u8 := (F_entryDelayMax.other W3 (Or.inr (slot_ne (Or.inr (hw _ (List.mem_of_getElem? (i := 21) rfl))) (Or.inr (hw _ (List.mem_of_getElem? (i := 15) rfl))) (by decide) (t := .long) (t' := .long) (by decide) (by decide))))
  have u9 := (F_syncDelays.other W3 (Or.inr (slot_ne (Or.inr (hw _ (List.mem_of_getElem? (i := 23) rfl))) (Or.inr (hw _ (List.mem_of_getElem? (i := 15) rfl))) (by decide) (t := .long) (t' := .long) (by decide) (by decide))))
  have u10 := (F_syncDelayMax.other W3 (Or.inr (slot_ne (Or.inr (hw _ (List.mem_of_getElem? (i := 25) rfl))) (Or.inr (hw _ (List.mem_of_getElem? (i := 15) rfl))) (by decide) (t := .long) (t' := .long) (by decide) (by decide))))
  have u11 := (F_syncDelayTotal.other W3 (Or.inr (slot_ne (Or.inr (hw _ (List.mem_of_getElem? (i := 27) rfl))) (Or.inr (hw _ (List.mem_of_getElem? (i := 15) rfl))) (by decide) (t := .long) (t' := .long) (by decide) (by decide))))
  have u12 := (F_overlaps.other W3 (Or.inr (slot_ne (Or.inr (hw _ (List.mem_of_getElem? (i := 29) rfl))) (Or.inr (hw _ (List.mem_of_getElem? (i := 15) rfl))) (by decide) (t := .long) (t' := .long) (by decide) (by decide))))
  have u13 := (u1.wr W3 (Or.inl (List.mem_of_getElem? (i := 0) rfl)))
  show own_Ends p e below s _ _ _ (T3.setTop (mkF m 9 #[.val (.ref r0), .val (.long q1), .second, .val (.long q2), .second, .val (.long q3), .second, .val (.long q4), .second, .val (.long q5), .second, .val (.long q6), .second, .val (.long q7), .second, .val (.long q8), .second] []))
  refine own_step (fun t k => XS.aloadN X3.here hx rfl (hb hby d1_9) rfl rfl k) ?_
  show own_Ends p e below s _ _ _ (T3.setTop (mkF m 10 #[.val (.ref r0), .val (.long q1), .second, .val (.long q2), .second, .val (.long q3), .second, .val (.long q4), .second, .val (.long q5), .second, .val (.long q6), .second, .val (.long q7), .second, .val (.long q8), .second] [(.ref r0)]))
  refine own_step (fun t k => XS.lloadN X3.here hx rfl (hb hby d1_10) rfl k) ?_
  show own_Ends p e below s _ _ _ (T3.setTop (mkF m 11 #[.val (.ref r0), .val (.long q1), .second, .val (.long q2), .second, .val (.long q3), .second, .val (.long q4), .second, .val (.long q5), .second, .val (.long q6), .second, .val (.long q7), .second, .val (.long q8), .second] [(.long q2), (.ref r0)]))
  obtain ⟨T14, h14, X14, e14, W14, st14⟩ := putF X3 hx hZ hown (host := "") (Or.inl (hw _ (List.mem_of_getElem? (i := 16) rfl))) Via.refl e3 u6 u4 (Or.inr ⟨(hw _ (List.mem_of_getElem? (i := 17) rfl)), rfl, hnm⟩) (hw _ (List.mem_of_getElem? (i := 1) rfl)) (ty := .long) (by decide) rfl rfl (g := (mkF m 11 #[.val (.ref r0), .val (.long q1), .second, .val (.long q2), .second, .val (.long q3), .second, .val (.long q4), .second, .val (.long q5), .second, .val (.long q6), .second, .val (.long q7), .second, .val (.long q8), .second] [(.long q2), (.ref r0)])) rfl rfl (hb hby d1_11)
  refine own_step st14 ?_
  have N14 := Fr.snoc X14 N3 gn_r0
  have Z14 : n0 ≤ h14.size := by rw [W14.size]; exact Z3
  have u15 := (u4.wr W14)
  have u16 := (u5.other W14 (Or.inr (slot_ne (Or.inr (hw _ (List.mem_of_getElem? (i := 15) rfl))) (Or.inr (hw _ (List.mem_of_getElem? (i := 17) rfl))) (by decide) (t := .long) (t' := .long) (by decide) (by decide))))
  have u17 := (u6.same W14)
  have u18 := (u7.other W14 (Or.inr (slot_ne (Or.inr (hw _ (List.mem_of_getElem? (i := 19) rfl))) (Or.inr (hw _ (List.mem_of_getElem? (i := 17) rfl))) (by decide) (t := .long) (t' := .long) (by decide) (by decide))))
  have u19 := (u8.other W14 (Or.inr (slot_ne (Or.inr (hw _ (List.mem_of_getElem? (i := 21) rfl))) (Or.inr (hw _ (List.mem_of_getElem? (i := 17) rfl))) (by decide) (t := .long) (t' := .long) (by decide) (by decide))))
  have u20 := (u9.other W14 (Or.inr (slot_ne (Or.inr (hw _ (List.mem_of_getElem? (i := 23) rfl))) (Or.inr (hw _ (List.mem_of_getElem? (i := 17) rfl))) (by decide) (t := .long) (t' := .long) (by decide) (by decide))))
  have u21 := (u10.other W14 (Or.inr (slot_ne (Or.inr (hw _ (List.mem_of_getElem? (i := 25) rfl))) (Or.inr (hw _ (List.mem_of_getElem? (i := 17) rfl))) (by decide) (t := .long) (t' := .long) (by decide) (by decide))))
  have u22 := (u11.other W14 (Or.inr (slot_ne (Or.inr (hw _ (List.mem_of_getElem? (i := 27) rfl))) (Or.inr (hw _ (List.mem_of_getElem? (i := 17) rfl))) (by decide) (t := .long) (t' := .long) (by decide) (by decide))))
  have u23 := (u12.other W14 (Or.inr (slot_ne (Or.inr (hw _ (List.mem_of_getElem? (i := 29) rfl))) (Or.inr (hw _ (List.mem_of_getElem? (i := 17) rfl))) (by decide) (t := .long) (t' := .long) (by decide) (by decide))))
  have u24 := (u13.wr W14 (Or.inl (List.mem_of_getElem? (i := 0) rfl)))
  show own_Ends p e below s _ _ _ (T14.setTop (mkF m 14 #[.val (.ref r0), .val (.long q1), .second, .val (.long q2), .second, .val (.long q3), .second, .val (.long q4), .second, .val (.long q5), .second, .val (.long q6), .second, .val (.long q7), .second, .val (.long q8), .second] []))
  refine own_step (fun t k => XS.aloadN X14.here hx rfl (hb hby d1_14) rfl rfl k) ?_
  show own_Ends p e below s _ _ _ (T14.setTop (mkF m 15 #[.val (.ref r0), .val (.long q1), .second, .val (.long q2), .second, .val (.long q3), .second, .val (.long q4), .second, .val (.long q5), .second, .val (.long q6), .second, .val (.long q7), .second, .val (.long q8), .second] [(.ref r0)]))
  refine own_step (fun t k => XS.lload X14.here hx rfl (hb hby d1_15) rfl k) ?_
  show own_Ends p e below s _ _ _ (T14.setTop (mkF m 17 #[.val (.ref r0), .val (.long q1), .second, .val (.long q2), .second, .val (.long q3), .second, .val (.long q4), .second, .val (.long q5), .second, .val (.long q6), .second, .val (.long q7), .second, .val (.long q8), .second] [(.long q3), (.ref r0)]))
  obtain ⟨T25, h25, X25, e25, W25, st25⟩ := putF X14 hx hZ hown (host := "") (Or.inl (hw _ (List.mem_of_getElem? (i := 18) rfl))) Via.refl e14 u18 u15 (Or.inr ⟨(hw _ (List.mem_of_getElem? (i := 19) rfl)), rfl, hnm⟩) (hw _ (List.mem_of_getElem? (i := 1) rfl)) (ty := .long) (by decide) rfl rfl (g := (mkF m 17 #[.val (.ref r0), .val (.long q1), .second, .val (.long q2), .second, .val (.long q3), .second, .val (.long q4), .second, .val (.long q5), .second, .val (.long q6), .second, .val (.long q7), .second, .val (.long q8), .second] [(.long q3), (.ref r0)])) rfl rfl (hb hby d1_17)
  refine own_step st25 ?_
  have N25 := Fr.snoc X25 N14 gn_r0
  have Z25 : n0 ≤ h25.size := by rw [W25.size]; exact Z14
  have u26 := (u15.wr W25)
  have u27 := (u16.other W25 (Or.inr (slot_ne (Or.inr (hw _ (List.mem_of_getElem? (i := 15) rfl))) (Or.inr (hw _ (List.mem_of_getElem? (i := 19) rfl))) (by decide) (t := .long) (t' := .long) (by decide) (by decide))))
  have u28 := (u17.other W25 (Or.inr (slot_ne (Or.inr (hw _ (List.mem_of_getElem? (i := 17) rfl))) (Or.inr (hw _ (List.mem_of_getElem? (i := 19) rfl))) (by decide) (t := .long) (t' := .long) (by decide) (by decide))))
  have u29 := (u18.same W25)
  have u30 := (u19.other W25 (Or.inr (slot_ne (Or.inr (hw _ (List.mem_of_getElem? (i := 21) rfl))) (Or.inr (hw _ (List.mem_of_getElem? (i := 19) rfl))) (by decide) (t := .long) (t' := .long) (by decide) (by decide))))
  have u31 := (u20.other W25 (Or.inr (slot_ne (Or.inr (hw _ (List.mem_of_getElem? (i := 23) rfl))) (Or.inr (hw _ (List.mem_of_getElem? (i := 19) rfl))) (by decide) (t := .long) (t' := .long) (by decide) (by decide))))
  have u32 := (u21.other W25 (Or.inr (slot_ne (Or.inr (hw _ (List.mem_of_getElem? (i := 25) rfl))) (Or.inr (hw _ (List.mem_of_getElem? (i := 19) rfl))) (by decide) (t := .long) (t' := .long) (by decide) (by decide))))
  have u33 := (u22.other W25 (Or.inr (slot_ne (Or.inr (hw _ (List.mem_of_getElem? (i := 27) rfl))) (Or.inr (hw _ (List.mem_of_getElem? (i := 19) rfl))) (by decide) (t := .long) (t' := .long) (by decide) (by decide))))
  have u34 := (u23.other W25 (Or.inr (slot_ne (Or.inr (hw _ (List.mem_of_getElem? (i := 29) rfl))) (Or.inr (hw _ (List.mem_of_getElem? (i := 19) rfl))) (by decide) (t := .long) (t' := .long) (by decide) (by decide))))
  have u35 := (u24.wr W25 (Or.inl (List.mem_of_getElem? (i := 0) rfl)))
  show own_Ends p e below s _ _ _ (T25.setTop (mkF m 20 #[.val (.ref r0), .val (.long q1), .second, .val (.long q2), .second, .val (.long q3), .second, .val (.long q4), .second, .val (.long q5), .second, .val (.long q6), .second, .val (.long q7), .second, .val (.long q8), .second] []))
  refine own_step (fun t k => XS.aloadN X25.here hx rfl (hb hby d1_20) rfl rfl k) ?_
  show own_Ends p e below s _ _ _ (T25.setTop (mkF m 21 #[.val (.ref r0), .val (.long q1), .second, .val (.long q2), .second, .val (.long q3), .second, .val (.long q4), .second, .val (.long q5), .second, .val (.long q6), .second, .val (.long q7), .second, .val (.long q8), .second] [(.ref r0)]))
  refine own_step (fun t k => XS.lload X25.here hx rfl (hb hby d1_21) rfl k) ?_
  show own_Ends p e below s _ _ _ (T25.setTop (mkF m 23 #[.val (.ref r0), .val (.long q1), .second, .val (.long q2), .second, .val (.long q3), .second, .val (.long q4), .second, .val (.long q5), .second, .val (.long q6), .second, .val (.long q7), .second, .val (.long q8), .second] [(.long q4), (.ref r0)]))
  obtain ⟨T36, h36, X36, e36, W36, st36⟩ := putF X25 hx hZ hown (host := "") (Or.inl (hw _ (List.mem_of_getElem? (i := 20) rfl))) Via.refl e25 u30 u26 (Or.inr ⟨(hw _ (List.mem_of_getElem? (i := 21) rfl)), rfl, hnm⟩) (hw _ (List.mem_of_getElem? (i := 1) rfl)) (ty := .long) (by decide) rfl rfl (g := (mkF m 23 #[.val (.ref r0), .val (.long q1), .second, .val (.long q2), .second, .val (.long q3), .second, .val (.long q4), .second, .val (.long q5), .second, .val (.long q6), .second, .val (.long q7), .second, .val (.long q8), .second] [(.long q4), (.ref r0)])) rfl rfl (hb hby d1_23)
  refine own_step st36 ?_
  have N36 := Fr.snoc X36 N25 gn_r0
  have Z36 : n0 ≤ h36.size := by rw [W36.size]; exact Z25
  have u37 := (u26.wr W36)
  have u38 := (u27.other W36 (Or.inr (slot_ne (Or.inr (hw _ (List.mem_of_getElem? (i := 15) rfl))) (Or.inr (hw _ (List.mem_of_getElem? (i := 21) rfl))) (by decide) (t := .long) (t' := .long) (by decide) (by decide))))
  have u39 := (u28.other W36 (Or.inr (slot_ne (Or.inr (hw _ (List.mem_of_getElem? (i := 17) rfl))) (Or.inr (hw _ (List.mem_of_getElem? (i := 21) rfl))) (by decide) (t := .long) (t' := .long) (by decide) (by decide))))
  have u40 := (u29.other W36 (Or.inr (slot_ne (Or.inr (hw _ (List.mem_of_getElem? (i := 19) rfl))) (Or.inr (hw _ (List.mem_of_getElem? (i := 21) rfl))) (by decide) (t := .long) (t' := .long) (by decide) (by decide))))
  have u41 := (u30.same W36)
  have u42 := (u31.other W36 (Or.inr (slot_ne (Or.inr (hw _ (List.mem_of_getElem? (i := 23) rfl))) (Or.inr (hw _ (List.mem_of_getElem? (i := 21) rfl))) (by decide) (t := .long) (t' := .long) (by decide) (by decide))))
  have u43 := (u32.other W36 (Or.inr (slot_ne (Or.inr (hw _ (List.mem_of_getElem? (i := 25) rfl))) (Or.inr (hw _ (List.mem_of_getElem? (i := 21) rfl))) (by decide) (t := .long) (t' := .long) (by decide) (by decide))))
  have u44 := (u33.other W36 (Or.inr (slot_ne (Or.inr (hw _ (List.mem_of_getElem? (i := 27) rfl))) (Or.inr (hw _ (List.mem_of_getElem? (i := 21) rfl))) (by decide) (t := .long) (t' := .long) (by decide) (by decide))))
  have u45 := (u34.other W36 (Or.inr (slot_ne (Or.inr (hw _ (List.mem_of_getElem? (i := 29) rfl))) (Or.inr (hw _ (List.mem_of_getElem? (i := 21) rfl))) (by decide) (t := .long) (t' := .long) (by decide) (by decide))))
  have u46 := (u35.wr W36 (Or.inl (List.mem_of_getElem? (i := 0) rfl)))
  show own_Ends p e below s _ _ _ (T36.setTop (mkF m 26 #[.val (.ref r0), .val (.long q1), .second, .val (.long q2), .second, .val (.long q3), .second, .val (.long q4), .second, .val (.long q5), .second, .val (.long q6), .second, .val (.long q7), .second, .val (.long q8), .second] []))
  refine own_step (fun t k => XS.aloadN X36.here hx rfl (hb hby d1_26) rfl rfl k) ?_
  show own_Ends p e below s _ _ _ (T36.setTop (mkF m 27 #[.val (.ref r0), .val (.long q1), .second, .val (.long q2), .second, .val (.long q3), .second, .val (.long q4), .second, .val (.long q5), .second, .val (.long q6), .second, .val (.long q7), .second, .val (.long q8), .second] [(.ref r0)]))
  refine own_step (fun t k => XS.lload X36.here hx rfl (hb hby d1_27) rfl k) ?_
  show own_Ends p e below s _ _ _ (T36.setTop (mkF m 29 #[.val (.ref r0), .val (.long q1), .second, .val (.long q2), .second, .val (.long q3), .second, .val (.long q4), .second, .val (.long q5), .second, .val (.long q6), .second, .val (.long q7), .second, .val (.long q8), .second] [(.long q5), (.ref r0)]))
  obtain ⟨T47, h47, X47, e47, W47, st47⟩ := putF X36 hx hZ hown (host := "") (Or.inl (hw _ (List.mem_of_getElem? (i := 22) rfl))) Via.refl e36 u42 u37 (Or.inr ⟨(hw _ (List.mem_of_getElem? (i := 23) rfl)), rfl, hnm⟩) (hw _ (List.mem_of_getElem? (i := 1) rfl)) (ty := .long) (by decide) rfl rfl (g := (mkF m 29 #[.val (.ref r0), .val (.long q1), .second, .val (.long q2), .second, .val (.long q3), .second, .val (.long q4), .second, .val (.long q5), .second, .val (.long q6), .second, .val (.long q7), .second, .val (.long q8), .second] [(.long q5), (.ref r0)])) rfl rfl (hb hby d1_29)
  refine own_step st47 ?_
  have N47 := Fr.snoc X47 N36 gn_r0
  have Z47 : n0 ≤ h47.size := by rw [W47.size]; exact Z36
  have u48 := (u37.wr W47)
  have u49 := (u38.other W47 (Or.inr (slot_ne (Or.inr (hw _ (List.mem_of_getElem? (i := 15) rfl))) (Or.inr (hw _ (List.mem_of_getElem? (i := 23) rfl))) (by decide) (t := .long) (t' := .long) (by decide) (by decide))))
  have u50 := (u39.other W47 (Or.inr (slot_ne (Or.inr (hw _ (List.mem_of_getElem? (i := 17) rfl))) (Or.inr (hw _ (List.mem_of_getElem? (i := 23) rfl))) (by decide) (t := .long) (t' := .long) (by decide) (by decide))))
  have u51 := (u40.other W47 (Or.inr (slot_ne (Or.inr (hw _ (List.mem_of_getElem? (i := 19) rfl))) (Or.inr (hw _ (List.mem_of_getElem? (i := 23) rfl))) (by decide) (t := .long) (t' := .long) (by decide) (by decide))))
  have u52 := (u41.other W47 (Or.inr (slot_ne (Or.inr (hw _ (List.mem_of_getElem? (i := 21) rfl))) (Or.inr (hw _ (List.mem_of_getElem? (i := 23) rfl))) (by decide) (t := .long) (t' := .long) (by decide) (by decide))))
  have u53 := (u42.same W47)
  have u54 := (u43.other W47 (Or.inr (slot_ne (Or.inr (hw _ (List.mem_of_getElem? (i := 25) rfl))) (Or.inr (hw _ (List.mem_of_getElem? (i := 23) rfl))) (by decide) (t := .long) (t' := .long) (by decide) (by decide))))
  have u55 := (u44.other W47 (Or.inr (slot_ne (Or.inr (hw _ (List.mem_of_getElem? (i := 27) rfl))) (Or.inr (hw _ (List.mem_of_getElem? (i := 23) rfl))) (by decide) (t := .long) (t' := .long) (by decide) (by decide))))
  have u56 := (u45.other W47 (Or.inr (slot_ne (Or.inr (hw _ (List.mem_of_getElem? (i := 29) rfl))) (Or.inr (hw _ (List.mem_of_getElem? (i := 23) rfl))) (by decide) (t := .long) (t' := .long) (by decide) (by decide))))
  have u57 := (u46.wr W47 (Or.inl (List.mem_of_getElem? (i := 0) rfl)))
  show own_Ends p e below s _ _ _ (T47.setTop (mkF m 32 #[.val (.ref r0), .val (.long q1), .second, .val (.long q2), .second, .val (.long q3), .second, .val (.long q4), .second, .val (.long q5), .second, .val (.long q6), .second, .val (.long q7), .second, .val (.long q8), .second] []))
  refine own_step (fun t k => XS.aloadN X47.here hx rfl (hb hby d1_32) rfl rfl k) ?_
  show own_Ends p e below s _ _ _ (T47.setTop (mkF m 33 #[.val (.ref r0), .val (.long q1), .second, .val (.long q2), .second, .val (.long q3), .second, .val (.long q4), .second, .val (.long q5), .second, .val (.long q6), .second, .val (.long q7), .second, .val (.long q8), .second] [(.ref r0)]))
  refine own_step (fun t k => XS.lload X47.here hx rfl (hb hby d1_33) rfl k) ?_
  show own_Ends p e below s _ _ _ (T47.setTop (mkF m 35 #[.val (.ref r0), .val (.long q1), .second, .val (.long q2), .second, .val (.long q3), .second, .val (.long q4), .second, .val (.long q5), .second, .val (.long q6), .second, .val (.long q7), .second, .val (.long q8), .second] [(.long q6), (.ref r0)]))
  obtain ⟨T58, h58, X58, e58, W58, st58⟩ := putF X47 hx hZ hown (host := "") (Or.inl (hw _ (List.mem_of_getElem? (i := 24) rfl))) Via.refl e47 u54 u48 (Or.inr ⟨(hw _ (List.mem_of_getElem? (i := 25) rfl)), rfl, hnm⟩) (hw _ (List.mem_of_getElem? (i := 1) rfl)) (ty := .long) (by decide) rfl rfl (g := (mkF m 35 #[.val (.ref r0), .val (.long q1), .second, .val (.long q2), .second, .val (.long q3), .second, .val (.long q4), .second, .val (.long q5), .second, .val (.long q6), .second, .val (.long q7), .second, .val (.long q8), .second] [(.long q6), (.ref r0)])) rfl rfl (hb hby d1_35)
  refine own_step st58 ?_
  have N58 := Fr.snoc X58 N47 gn_r0
  have Z58 : n0 ≤ h58.size := by rw [W58.size]; exact Z47
  have u59 := (u48.wr W58)
  have u60 := (u49.other W58 (Or.inr (slot_ne (Or.inr (hw _ (List.mem_of_getElem? (i := 15) rfl))) (Or.inr (hw _ (List.mem_of_getElem? (i := 25) rfl))) (by decide) (t := .long) (t' := .long) (by decide) (by decide))))
  have u61 := (u50.other W58 (Or.inr (slot_ne (Or.inr (hw _ (List.mem_of_getElem? (i := 17) rfl))) (Or.inr (hw _ (List.mem_of_getElem? (i := 25) rfl))) (by decide) (t := .long) (t' := .long) (by decide) (by decide))))
  have u62 := (u51.other W58 (Or.inr (slot_ne (Or.inr (hw _ (List.mem_of_getElem? (i := 19) rfl))) (Or.inr (hw _ (List.mem_of_getElem? (i := 25) rfl))) (by decide) (t := .long) (t' := .long) (by decide) (by decide))))
  have u63 := (u52.other W58 (Or.inr (slot_ne (Or.inr (hw _ (List.mem_of_getElem? (i := 21) rfl))) (Or.inr (hw _ (List.mem_of_getElem? (i := 25) rfl))) (by decide) (t := .long) (t' := .long) (by decide) (by decide))))
  have u64 := (u53.other W58 (Or.inr (slot_ne (Or.inr (hw _ (List.mem_of_getElem? (i := 23) rfl))) (Or.inr (hw _ (List.mem_of_getElem? (i := 25) rfl))) (by decide) (t := .long) (t' := .long) (by decide) (by decide))))
  have u65 := (u54.same W58)
  have u66 := (u55.other W58 (Or.inr (slot_ne (Or.inr (hw _ (List.mem_of_getElem? (i := 27) rfl))) (Or.inr (hw _ (List.mem_of_getElem? (i := 25) rfl))) (by decide) (t := .long) (t' := .long) (by decide) (by decide))))
  have u67 := (u56.other W58 (Or.inr (slot_ne (Or.inr (hw _ (List.mem_of_getElem? (i := 29) rfl))) (Or.inr (hw _ (List.mem_of_getElem? (i := 25) rfl))) (by decide) (t := .long) (t' := .long) (by decide) (by decide))))
  have u68 := (u57.wr W58 (Or.inl (List.mem_of_getElem? (i := 0) rfl)))
  show own_Ends p e below s _ _ _ (T58.setTop (mkF m 38 #[.val (.ref r0), .val (.long q1), .second, .val (.long q2), .second, .val (.long q3), .second, .val (.long q4), .second, .val (.long q5), .second, .val (.long q6), .second, .val (.long q7), .second, .val (.long q8), .second] []))
  refine own_step (fun t k => XS.aloadN X58.here hx rfl (hb hby d1_38) rfl rfl k) ?_
  show own_Ends p e below s _ _ _ (T58.setTop (mkF m 39 #[.val (.ref r0), .val (.long q1), .second, .val (.long q2), .second, .val (.long q3), .second, .val (.long q4), .second, .val (.long q5), .second, .val (.long q6), .second, .val (.long q7), .second, .val (.long q8), .second] [(.ref r0)]))
  refine own_step (fun t k => XS.lload X58.here hx rfl (hb hby d1_39) rfl k) ?_
  show own_Ends p e below s _ _ _ (T58.setTop (mkF m 41 #[.val (.ref r0), .val (.long q1), .second, .val (.long q2), .second, .val (.long q3), .second, .val (.long q4), .second, .val (.long q5), .second, .val (.long q6), .second, .val (.long q7), .second, .val (.long q8), .second] [(.long q7), (.ref r0)]))
  obtain ⟨T69, h69, X69, e69, W69, st69⟩ := putF X58 hx hZ hown (host := "") (Or.inl (hw _ (List.mem_of_getElem? (i := 26) rfl))) Via.refl e58 u66 u59 (Or.inr ⟨(hw _ (List.mem_of_getElem? (i := 27) rfl)), rfl, hnm⟩) (hw _ (List.mem_of_getElem? (i := 1) rfl)) (ty := .long) (by decide) rfl rfl (g := (mkF m 41 #[.val (.ref r0), .val (.long q1), .second, .val (.long q2), .second, .val (.long q3), .second, .val (.long q4), .second, .val (.long q5), .second, .val (.long q6), .second, .val (.long q7), .second, .val (.long q8), .second] [(.long q7), (.ref r0)])) rfl rfl (hb hby d1_41)
  refine own_step st69 ?_
  have N69 := Fr.snoc X69 N58 gn_r0
  have Z69 : n0 ≤ h69.size := by rw [W69.size]; exact Z58
  have u70 := (u59.wr W69)
  have u71 := (u60.other W69 (Or.inr (slot_ne (Or.inr (hw _ (List.mem_of_getElem? (i := 15) rfl))) (Or.inr (hw _ (List.mem_of_getElem? (i := 27) rfl))) (by decide) (t := .long) (t' := .long) (by decide) (by decide))))
  have u72 := (u61.other W69 (Or.inr (slot_ne (Or.inr (hw _ (List.mem_of_getElem? (i := 17) rfl))) (Or.inr (hw _ (List.mem_of_getElem? (i := 27) rfl))) (by decide) (t := .long) (t' := .long) (by decide) (by decide))))
  have u73 := (u62.other W69 (Or.inr (slot_ne (Or.inr (hw _ (List.mem_of_getElem? (i := 19) rfl))) (Or.inr (hw _ (List.mem_of_getElem? (i := 27) rfl))) (by decide) (t := .long) (t' := .long) (by decide) (by decide))))
  have u74 := (u63.other W69 (Or.inr (slot_ne (Or.inr (hw _ (List.mem_of_getElem? (i := 21) rfl))) (Or.inr (hw _ (List.mem_of_getElem? (i := 27) rfl))) (by decide) (t := .long) (t' := .long) (by decide) (by decide))))
  have u75 := (u64.other W69 (Or.inr (slot_ne (Or.inr (hw _ (List.mem_of_getElem? (i := 23) rfl))) (Or.inr (hw _ (List.mem_of_getElem? (i := 27) rfl))) (by decide) (t := .long) (t' := .long) (by decide) (by decide))))
  have u76 := (u65.other W69 (Or.inr (slot_ne (Or.inr (hw _ (List.mem_of_getElem? (i := 25) rfl))) (Or.inr (hw _ (List.mem_of_getElem? (i := 27) rfl))) (by decide) (t := .long) (t' := .long) (by decide) (by decide))))
  have u77 := (u66.same W69)
  have u78 := (u67.other W69 (Or.inr (slot_ne (Or.inr (hw _ (List.mem_of_getElem? (i := 29) rfl))) (Or.inr (hw _ (List.mem_of_getElem? (i := 27) rfl))) (by decide) (t := .long) (t' := .long) (by decide) (by decide))))
  have u79 := (u68.wr W69 (Or.inl (List.mem_of_getElem? (i := 0) rfl)))
  show own_Ends p e below s _ _ _ (T69.setTop (mkF m 44 #[.val (.ref r0), .val (.long q1), .second, .val (.long q2), .second, .val (.long q3), .second, .val (.long q4), .second, .val (.long q5), .second, .val (.long q6), .second, .val (.long q7), .second, .val (.long q8), .second] []))
  refine own_step (fun t k => XS.aloadN X69.here hx rfl (hb hby d1_44) rfl rfl k) ?_
  show own_Ends p e below s _ _ _ (T69.setTop (mkF m 45 #[.val (.ref r0), .val (.long q1), .second, .val (.long q2), .second, .val (.long q3), .second, .val (.long q4), .second, .val (.long q5), .second, .val (.long q6), .second, .val (.long q7), .second, .val (.long q8), .second] [(.ref r0)]))
  refine own_step (fun t k => XS.lload X69.here hx rfl (hb hby d1_45) rfl k) ?_
  show own_Ends p e below s _ _ _ (T69.setTop (mkF m 47 #[.val (.ref r0), .val (.long q1), .second, .val (.long q2), .second, .val (.long q3), .second, .val (.long q4), .second, .val (.long q5), .second, .val (.long q6), .second, .val (.long q7), .second, .val (.long q8), .second] [(.long q8), (.ref r0)]))
  obtain ⟨T80, h80, X80, e80, W80, st80⟩ := putF X69 hx hZ hown (host := "") (Or.inl (hw _ (List.mem_of_getElem? (i := 28) rfl))) Via.refl e69 u78 u70 (Or.inr ⟨(hw _ (List.mem_of_getElem? (i := 29) rfl)), rfl, hnm⟩) (hw _ (List.mem_of_getElem? (i := 1) rfl)) (ty := .long) (by decide) rfl rfl (g := (mkF m 47 #[.val (.ref r0), .val (.long q1), .second, .val (.long q2), .second, .val (.long q3), .second, .val (.long q4), .second, .val (.long q5), .second, .val (.long q6), .second, .val (.long q7), .second, .val (.long q8), .second] [(.long q8), (.ref r0)])) rfl rfl (hb hby d1_47)
  refine own_step st80 ?_
  have N80 := Fr.snoc X80 N69 gn_r0
  have Z80 : n0 ≤ h80.size := by rw [W80.size]; exact Z69
  have u81 := (u70.wr W80)
  have u82 := (u71.other W80 (Or.inr (slot_ne (Or.inr (hw _ (List.mem_of_getElem? (i := 15) rfl))) (Or.inr (hw _ (List.mem_of_getElem? (i := 29) rfl))) (by decide) (t := .long) (t' := .long) (by decide) (by decide))))
  have u83 := (u72.other W80 (Or.inr (slot_ne (Or.inr (hw _ (List.mem_of_getElem? (i := 17) rfl))) (Or.inr (hw _ (List.mem_of_getElem? (i := 29) rfl))) (by decide) (t := .long) (t' := .long) (by decide) (by decide))))
  have u84 := (u73.other W80 (Or.inr (slot_ne (Or.inr (hw _ (List.mem_of_getElem? (i := 19) rfl))) (Or.inr (hw _ (List.mem_of_getElem? (i := 29) rfl))) (by decide) (t := .long) (t' := .long) (by decide) (by decide))))
  have u85 := (u74.other W80 (Or.inr (slot_ne (Or.inr (hw _ (List.mem_of_getElem? (i := 21) rfl))) (Or.inr (hw _ (List.mem_of_getElem? (i := 29) rfl))) (by decide) (t := .long) (t' := .long) (by decide) (by decide))))
  have u86 := (u75.other W80 (Or.inr (slot_ne (Or.inr (hw _ (List.mem_of_getElem? (i := 23) rfl))) (Or.inr (hw _ (List.mem_of_getElem? (i := 29) rfl))) (by decide) (t := .long) (t' := .long) (by decide) (by decide))))
  have u87 := (u76.other W80 (Or.inr (slot_ne (Or.inr (hw _ (List.mem_of_getElem? (i := 25) rfl))) (Or.inr (hw _ (List.mem_of_getElem? (i := 29) rfl))) (by decide) (t := .long) (t' := .long) (by decide) (by decide))))
  have u88 := (u77.other W80 (Or.inr (slot_ne (Or.inr (hw _ (List.mem_of_getElem? (i := 27) rfl))) (Or.inr (hw _ (List.mem_of_getElem? (i := 29) rfl))) (by decide) (t := .long) (t' := .long) (by decide) (by decide))))
  have u89 := (u78.same W80)
  have u90 := (u79.wr W80 (Or.inl (List.mem_of_getElem? (i := 0) rfl)))
  show own_Ends p e below s _ _ _ (T80.setTop (mkF m 50 #[.val (.ref r0), .val (.long q1), .second, .val (.long q2), .second, .val (.long q3), .second, .val (.long q4), .second, .val (.long q5), .second, .val (.long q6), .second, .val (.long q7), .second, .val (.long q8), .second] []))
  exact own_ret0 X80 hx hlk hret (hb hby d1_50) (by rw [e80]; exact ⟨rfl, N80, Z80, u90, u81, u82, u83, u84, u85, u86, u87, u88, u89⟩) (by decide) (by decide)
theorem d4_0 : decode prog_36_method_2_code 0 = .ok (.aload_n 0, 1) := by decide +kernel
theorem d4_1 : decode prog_36_method_2_code 1 = .ok (.getfield 13, 3) := by decide +kernel
theorem d4_4 : decode prog_36_method_2_code 4 = .ok (.aload_n 0, 1) := by decide +kernel
theorem d4_5 : decode prog_36_method_2_code 5 = .ok (.getfield 7, 3) := by decide +kernel
theorem d4_8 : decode prog_36_method_2_code 8 = .ok (.lcmp, 1) := by decide +kernel
theorem d4_9 : decode prog_36_method_2_code 9 = .ok (.ifCond .ne 16, 3) := by decide +kernel
theorem d4_12 : decode prog_36_method_2_code 12 = .ok (.aload_n 0, 1) := by decide +kernel
theorem d4_13 : decode prog_36_method_2_code 13 = .ok (.getfield 31, 3) := by decide +kernel
theorem d4_16 : decode prog_36_method_2_code 16 = .ok (.lconst 0, 1) := by decide +kernel
theorem d4_17 : decode prog_36_method_2_code 17 = .ok (.lcmp, 1) := by decide +kernel
theorem d4_18 : decode prog_36_method_2_code 18 = .ok (.ifCond .ne 7, 3) := by decide +kernel
theorem d4_21 : decode prog_36_method_2_code 21 = .ok (.iconst 1, 1) := by decide +kernel
theorem d4_22 : decode prog_36_method_2_code 22 = .ok (.goto 4, 3) := by decide +kernel
theorem d4_25 : decode prog_36_method_2_code 25 = .ok (.iconst 0, 1) := by decide +kernel
theorem d4_26 : decode prog_36_method_2_code 26 = .ok (.ireturn, 1) := by decide +kernel
theorem pn_4 : plainName "com/example/hop_mutex/hopmutex/command/Simulation$Figures" = true := by first | (simp [plainName, overriddenIn]; done) | decide +kernel
theorem ef_4 (m : MethodId) (r0 : Addr) : entryFrame m #[(.ref r0)] 1 = mkF m 0 #[.val (.ref r0)] [] := by first | (simp [entryFrame, mkF, argsToLocals, Value.category]; done) | rfl
def f4_0 (vc : Int64) (ve : Int64) (vo : Int64) : Int32 := (if vc = ve then (if vo = (0 : Int64) then (1 : Int32) else (0 : Int32)) else (0 : Int32))
def Q4 (Z : State) (r0 : Addr) (vc : Int64) (ve : Int64) (vo : Int64) (h0 : Heap) (n0 : Nat) (v : Option Value) (h : Heap) (L : List Loc) : Prop := v = some (.int (f4_0 vc ve vo)) ∧ Fr n0 L ∧ h = h0
set_option maxRecDepth 65536 in
set_option maxHeartbeats 40000000 in
theorem rm4 (l : Launch) (Z : State) (a0 : Array Value) (hw : ∀ d ∈ tables_1, d.before a0 Z = true) (ws : List Jvm.Cond) (r0 : Addr) (vc : Int64) (ve : Int64) (vo : Int64) (h0 : Heap) (n0 : Nat) (F_completed : Fld Z h0 r0 "com/example/hop_mutex/hopmutex/command/Simulation$Figures" "completed" "J" (.long vc)) (F_entries : Fld Z h0 r0 "com/example/hop_mutex/hopmutex/command/Simulation$Figures" "entries" "J" (.long ve)) (F_overlaps : Fld Z h0 r0 "com/example/hop_mutex/hopmutex/command/Simulation$Figures" "overlaps" "J" (.long vo)) :
    MetFree l (⟨"com/example/hop_mutex/hopmutex/command/Simulation$Figures", "succeeded", "()Z"⟩ : MethodName) (head1 (Jvm.Cond.code (⟨"com/example/hop_mutex/hopmutex/command/Simulation$Figures", "succeeded", "()Z"⟩ : MethodName) prog_36_method_2_code 1 (some .boolean) :: ws) ({ frames := 0, cells := 0, slots := 0, locals := 0 } : Room)) (fun a U => a = #[(.ref r0)] ∧ Z.Warmed39 U.vm ∧ U.heap = h0) (fun _ _ _ _ _ => True) (fun _ U o U' => ∃ v L, o = .returned v ∧ (Q4 Z r0 vc ve vo h0 n0) v U'.heap L ∧ FrameEnd U o U' L ({ frames := 0, cells := 0, slots := 0, locals := 0 } : Room).cells ({ frames := 0, cells := 0, slots := 0, locals := 0 } : Room).slots) := by
  refine MetFree.of_bodySF (plainFor_of_name pn_4) hisR ?_
  intro p e s m args below meth c s₁ Bd hml0 hP hK
  obtain ⟨rfl, hZ, hh⟩ := hP
  have hx := Bd.exec
  have hby := Bd.bytes
  have hret := Bd.returns
  have hlk := BodyLoose.notSynchronized Bd
  have hml : c.maxLocals = 1 := hml0
  have hown : s.vm.findClass "com/example/hop_mutex/hopmutex/command/Simulation$Figures" = some m.cls := findClass_of_methodNamed Bd.named
  have hnm := (name_of_methodNamed Bd.named Bd.method).1
  have X0 : Stand p l e ({ frames := 0, cells := 0, slots := 0, locals := 0 } : Room) s m #[(.ref r0)] below meth c s₁ [] 0 0 := Stand.of_body Bd
  have e0 : s₁.heap = h0 := by rw [← hh, Bd.state]; rfl
  have N0 := Fr.nil n0
  show own_Ends p e below s ({ frames := 0, cells := 0, slots := 0, locals := 0 } : Room).cells ({ frames := 0, cells := 0, slots := 0, locals := 0 } : Room).slots (Q4 Z r0 vc ve vo h0 n0) (s₁.setTop (entryFrame m #[(.ref r0)] 1))
  refine own_cast (ef_4 m r0) ?_
  show own_Ends p e below s _ _ _ (s₁.setTop (mkF m 0 #[.val (.ref r0)] []))
  refine own_step (fun t k => XS.aloadN X0.here hx rfl (hb hby d4_0) rfl rfl k) ?_
  show own_Ends p e below s _ _ _ (s₁.setTop (mkF m 1 #[.val (.ref r0)] [(.ref r0)]))
  obtain ⟨T1, X1, e1, st1⟩ := getF X0 hx hZ hown (host := "") (Or.inl (hw _ (List.mem_of_getElem? (i := 16) rfl))) Via.refl e0 F_completed (g := (mkF m 1 #[.val (.ref r0)] [(.ref r0)])) rfl rfl (hb hby d4_1)
  refine own_step st1 ?_
  show own_Ends p e below s _ _ _ (T1.setTop (mkF m 4 #[.val (.ref r0)] [(.long vc)]))
  refine own_step (fun t k => XS.aloadN X1.here hx rfl (hb hby d4_4) rfl rfl k) ?_
  show own_Ends p e below s _ _ _ (T1.setTop (mkF m 5 #[.val (.ref r0)] [(.ref r0), (.long vc)]))
  obtain ⟨T2, X2, e2, st2⟩ := getF X1 hx hZ hown (host := "") (Or.inl (hw _ (List.mem_of_getElem? (i := 14) rfl))) Via.refl e1 F_entries (g := (mkF m 5 #[.val (.ref r0)] [(.ref r0), (.long vc)])) rfl rfl (hb hby d4_5)
  refine own_step st2 ?_
  show own_Ends p e below s _ _ _ (T2.setTop (mkF m 8 #[.val (.ref r0)] [(.long ve), (.long vc)]))
  refine own_step (fun t k => XS.lcmp X2.here hx rfl (hb hby d4_8) rfl k) ?_
  show own_Ends p e below s _ _ _ (T2.setTop (mkF m 9 #[.val (.ref r0)] [(.int (lcmpW vc ve))]))
  by_cases hc9_3 : vc = ve
  · -- vc = ve
    refine own_step (fun t k => XS.ifNo X2.here hx rfl (hb hby d4_9) rfl ((if0 _ _).trans (teq ((lw_eq vc ve).mpr hc9_3)).2) k) ?_
    show own_Ends p e below s _ _ _ (T2.setTop (mkF m 12 #[.val (.ref r0)] []))
    refine own_step (fun t k => XS.aloadN X2.here hx rfl (hb hby d4_12) rfl rfl k) ?_
    show own_Ends p e below s _ _ _ (T2.setTop (mkF m 13 #[.val (.ref r0)] [(.ref r0)]))
    obtain ⟨T4, X4, e4, st4⟩ := getF X2 hx hZ hown (host := "") (Or.inl (hw _ (List.mem_of_getElem? (i := 28) rfl))) Via.refl e2 F_overlaps (g := (mkF m 13 #[.val (.ref r0)] [(.ref r0)])) rfl rfl (hb hby d4_13)
    refine own_step st4 ?_
    show own_Ends p e below s _ _ _ (T4.setTop (mkF m 16 #[.val (.ref r0)] [(.long vo)]))
    refine own_step (fun t k => XS.lconst X4.here hx rfl (hb hby d4_16) k) ?_
    show own_Ends p e below s _ _ _ (T4.setTop (mkF m 17 #[.val (.ref r0)] [(.long (0 : Int64)), (.long vo)]))
    refine own_step (fun t k => XS.lcmp X4.here hx rfl (hb hby d4_17) rfl k) ?_
    show own_Ends p e below s _ _ _ (T4.setTop (mkF m 18 #[.val (.ref r0)] [(.int (lcmpW vo (0 : Int64)))]))
    by_cases hc18_5 : vo = (0 : Int64)
    · -- vo = (0 : Int64)
      refine own_step (fun t k => XS.ifNo X4.here hx rfl (hb hby d4_18) rfl ((if0 _ _).trans (teq ((lw_eq vo (0 : Int64)).mpr hc18_5)).2) k) ?_
      show own_Ends p e below s _ _ _ (T4.setTop (mkF m 21 #[.val (.ref r0)] []))
      refine own_step (fun t k => XS.iconst X4.here hx rfl (hb hby d4_21) k) ?_
      show own_Ends p e below s _ _ _ (T4.setTop (mkF m 22 #[.val (.ref r0)] [(.int (1 : Int32))]))
      refine own_step (fun t k => XS.goto X4.here hx rfl (pc0 := 22) (pc' := 26) rfl (hb hby d4_22) (by decide) (by decide) k) ?_
      show own_Ends p e below s _ _ _ (T4.setTop (mkF m 26 #[.val (.ref r0)] [(.int (1 : Int32))]))
      exact own_retN X4 hx hlk (t := .boolean) hret (by simp) (hb hby d4_26) (w := (1 : Int32)) (by decide) ⟨congrArg (fun w => some (Value.int w)) (Eq.symm (((show f4_0 vc ve vo = _ from rfl).trans (if_pos hc9_3)).trans (if_pos hc18_5))), N0, e4⟩ (by decide) (by decide)
    · -- not vo = (0 : Int64)
      refine own_step (fun t k => XS.ifYes X4.here hx rfl (pc0 := 18) (pc' := 25) rfl (hb hby d4_18) rfl ((if0 _ _).trans (feq (fun q => hc18_5 ((lw_eq vo (0 : Int64)).mp q))).2) (by decide) (by decide) k) ?_
      show own_Ends p e below s _ _ _ (T4.setTop (mkF m 25 #[.val (.ref r0)] []))
      refine own_step (fun t k => XS.iconst X4.here hx rfl (hb hby d4_25) k) ?_
      show own_Ends p e below s _ _ _ (T4.setTop (mkF m 26 #[.val (.ref r0)] [(.int (0 : Int32))]))
      exact own_retN X4 hx hlk (t := .boolean) hret (by simp) (hb hby d4_26) (w := (0 : Int32)) (by decide) ⟨congrArg (fun w => some (Value.int w)) (Eq.symm (((show f4_0 vc ve vo = _ from rfl).trans (if_pos hc9_3)).trans (if_neg hc18_5))), N0, e4⟩ (by decide) (by decide)
  · -- not vc = ve
    refine own_step (fun t k => XS.ifYes X2.here hx rfl (pc0 := 9) (pc' := 25) rfl (hb hby d4_9) rfl ((if0 _ _).trans (feq (fun q => hc9_3 ((lw_eq vc ve).mp q))).2) (by decide) (by decide) k) ?_
    show own_Ends p e below s _ _ _ (T2.setTop (mkF m 25 #[.val (.ref r0)] []))
    refine own_step (fun t k => XS.iconst X2.here hx rfl (hb hby d4_25) k) ?_
    show own_Ends p e below s _ _ _ (T2.setTop (mkF m 26 #[.val (.ref r0)] [(.int (0 : Int32))]))
    exact own_retN X2 hx hlk (t := .boolean) hret (by simp) (hb hby d4_26) (w := (0 : Int32)) (by decide) ⟨congrArg (fun w => some (Value.int w)) (Eq.symm ((show f4_0 vc ve vo = _ from rfl).trans (if_neg hc9_3))), N0, e2⟩ (by decide) (by decide)
theorem pn_0 : plainName "com/example/hop_mutex/hopmutex/command/FiguresSucceededPinLaw" = true := by first | (simp [plainName, overriddenIn]; done) | decide +kernel
theorem ef_0 (m : MethodId) (q0 : Int64) (q1 : Int64) (q2 : Int64) (q3 : Int64) (q4 : Int64) (p5 : Int32) : entryFrame m #[(.long q0), (.long q1), (.long q2), (.long q3), (.long q4), (.int p5)] maxLocals = mkF m 0 #[.val (.long q0), .second, .val (.long q1), .second, .val (.long q2), .second, .val (.long q3), .second, .val (.long q4), .second, .val (.int p5), .unset, .unset, .unset, .unset, .unset, .unset, .unset, .unset, .unset, .unset] [] := by first | (simp [entryFrame, mkF, argsToLocals, Value.category, maxLocals]; done) | rfl
theorem pd0_0 : parseMethodDescriptor "(JJJJJJJJ)V" = some ⟨[.long, .long, .long, .long, .long, .long, .long, .long], none⟩ := by decide +kernel
theorem pd0_1 : parseMethodDescriptor "()Z" = some ⟨[], some .boolean⟩ := by decide +kernel
set_option maxRecDepth 65536 in
set_option maxHeartbeats 40000000 in
theorem rm0 (l : Launch) (Z : State) (a0 : Array Value) (hw : ∀ d ∈ tables_1, d.before a0 Z = true) (ws : List Jvm.Cond) (q0 : Int64) (q1 : Int64) (q2 : Int64) (q3 : Int64) (q4 : Int64) (p5 : Int32) (h0 : Heap) (n0 : Nat) (Z0 : n0 ≤ h0.size) :
    MetFree l x (head1 (Jvm.Cond.code x code maxLocals ret :: ws) room_1) (fun a U => a = #[(.long q0), (.long q1), (.long q2), (.long q3), (.long q4), (.int p5)] ∧ Z.Warmed39 U.vm ∧ U.heap = h0) (fun _ _ _ _ _ => True) (fun _ U o U' => ∃ v L, o = .returned v ∧ (fun v h L => v = some (.int 1) ∧ Fr n0 L) v U'.heap L ∧ FrameEnd U o U' L 16 128) := by
  refine MetFree.of_bodySF (plainFor_of_name pn_0) hisR ?_
  intro p e s m args below meth c s₁ Bd hml0 hP hK
  obtain ⟨rfl, hZ, hh⟩ := hP
  have hx := Bd.exec
  have hby := Bd.bytes
  have hret := Bd.returns
  have hlk := BodyLoose.notSynchronized Bd
  have hml : c.maxLocals = 21 := hml0
  have hown : s.vm.findClass "com/example/hop_mutex/hopmutex/command/FiguresSucceededPinLaw" = some m.cls := findClass_of_methodNamed Bd.named
  have hnm := (name_of_methodNamed Bd.named Bd.method).1
  have X0 : Stand p l e room_1 s m #[(.long q0), (.long q1), (.long q2), (.long q3), (.long q4), (.int p5)] below meth c s₁ [] 0 0 := Stand.of_body Bd
  have e0 : s₁.heap = h0 := by rw [← hh, Bd.state]; rfl
  have N0 := Fr.nil n0
  show own_Ends p e below s 16 128 (fun v h L => v = some (.int 1) ∧ Fr n0 L) (s₁.setTop (entryFrame m #[(.long q0), (.long q1), (.long q2), (.long q3), (.long q4), (.int p5)] maxLocals))
  refine own_cast (ef_0 m q0 q1 q2 q3 q4 p5) ?_
  show own_Ends p e below s _ _ _ (s₁.setTop (mkF m 0 #[.val (.long q0), .second, .val (.long q1), .second, .val (.long q2), .second, .val (.long q3), .second, .val (.long q4), .second, .val (.int p5), .unset, .unset, .unset, .unset, .unset, .unset, .unset, .unset, .unset, .unset] []))
  refine own_step (fun t k => XS.iload X0.here hx rfl (hb hby at_0) rfl k) ?_
  show own_Ends p e below s _ _ _ (s₁.setTop (mkF m 2 #[.val (.long q0), .second, .val (.long q1), .second, .val (.long q2), .second, .val (.long q3), .second, .val (.long q4), .second, .val (.int p5), .unset, .unset, .unset, .unset, .unset, .unset, .unset, .unset, .unset, .unset] [(.int p5)]))
  refine own_step (fun t k => XS.iconst X0.here hx rfl (hb hby at_2) k) ?_
  show own_Ends p e below s _ _ _ (s₁.setTop (mkF m 3 #[.val (.long q0), .second, .val (.long q1), .second, .val (.long q2), .second, .val (.long q3), .second, .val (.long q4), .second, .val (.int p5), .unset, .unset, .unset, .unset, .unset, .unset, .unset, .unset, .unset, .unset] [(.int (1 : Int32)), (.int p5)]))
  refine own_step (fun t k => XS.iand X0.here hx rfl (hb hby at_3) rfl k) ?_
  show own_Ends p e below s _ _ _ (s₁.setTop (mkF m 4 #[.val (.long q0), .second, .val (.long q1), .second, .val (.long q2), .second, .val (.long q3), .second, .val (.long q4), .second, .val (.int p5), .unset, .unset, .unset, .unset, .unset, .unset, .unset, .unset, .unset, .unset] [(.int (p5 &&& (1 : Int32)))]))
  by_cases hc4_1 : (p5 &&& (1 : Int32)) = (0 : Int32)
  · -- (p5 &&& (1 : Int32)) = (0 : Int32)
    refine own_step (fun t k => XS.ifYes X0.here hx rfl (pc0 := 4) (pc' := 11) rfl (hb hby at_4) rfl ((if0 _ _).trans (teq hc4_1).1) (by decide) (by decide) k) ?_
    show own_Ends p e below s _ _ _ (s₁.setTop (mkF m 11 #[.val (.long q0), .second, .val (.long q1), .second, .val (.long q2), .second, .val (.long q3), .second, .val (.long q4), .second, .val (.int p5), .unset, .unset, .unset, .unset, .unset, .unset, .unset, .unset, .unset, .unset] []))
    refine own_step (fun t k => XS.iconst X0.here hx rfl (hb hby at_11) k) ?_
    show own_Ends p e below s _ _ _ (s₁.setTop (mkF m 12 #[.val (.long q0), .second, .val (.long q1), .second, .val (.long q2), .second, .val (.long q3), .second, .val (.long q4), .second, .val (.int p5), .unset, .unset, .unset, .unset, .unset, .unset, .unset, .unset, .unset, .unset] [(.int (0 : Int32))]))
    refine own_step (fun t k => XS.istore X0.here hx rfl (hb hby at_12) rfl (l' := #[.val (.long q0), .second, .val (.long q1), .second, .val (.long q2), .second, .val (.long q3), .second, .val (.long q4), .second, .val (.int p5), .val (.int (0 : Int32)), .unset, .unset, .unset, .unset, .unset, .unset, .unset, .unset, .unset]) rfl k) ?_
    show own_Ends p e below s _ _ _ (s₁.setTop (mkF m 14 #[.val (.long q0), .second, .val (.long q1), .second, .val (.long q2), .second, .val (.long q3), .second, .val (.long q4), .second, .val (.int p5), .val (.int (0 : Int32)), .unset, .unset, .unset, .unset, .unset, .unset, .unset, .unset, .unset] []))
    refine own_step (fun t k => XS.iload X0.here hx rfl (hb hby at_14) rfl k) ?_
    show own_Ends p e below s _ _ _ (s₁.setTop (mkF m 16 #[.val (.long q0), .second, .val (.long q1), .second, .val (.long q2), .second, .val (.long q3), .second, .val (.long q4), .second, .val (.int p5), .val (.int (0 : Int32)), .unset, .unset, .unset, .unset, .unset, .unset, .unset, .unset, .unset] [(.int p5)]))
    refine own_step (fun t k => XS.iconst X0.here hx rfl (hb hby at_16) k) ?_
    show own_Ends p e below s _ _ _ (s₁.setTop (mkF m 17 #[.val (.long q0), .second, .val (.long q1), .second, .val (.long q2), .second, .val (.long q3), .second, .val (.long q4), .second, .val (.int p5), .val (.int (0 : Int32)), .unset, .unset, .unset, .unset, .unset, .unset, .unset, .unset, .unset] [(.int (2 : Int32)), (.int p5)]))
    refine own_step (fun t k => XS.iand X0.here hx rfl (hb hby at_17) rfl k) ?_
    show own_Ends p e below s _ _ _ (s₁.setTop (mkF m 18 #[.val (.long q0), .second, .val (.long q1), .second, .val (.long q2), .second, .val (.long q3), .second, .val (.long q4), .second, .val (.int p5), .val (.int (0 : Int32)), .unset, .unset, .unset, .unset, .unset, .unset, .unset, .unset, .unset] [(.int (p5 &&& (2 : Int32)))]))
    by_cases hc18_2 : (p5 &&& (2 : Int32)) = (0 : Int32)
    · -- (p5 &&& (2 : Int32)) = (0 : Int32)
      refine own_step (fun t k => XS.ifYes X0.here hx rfl (pc0 := 18) (pc' := 25) rfl (hb hby at_18) rfl ((if0 _ _).trans (teq hc18_2).1) (by decide) (by decide) k) ?_
      show own_Ends p e below s _ _ _ (s₁.setTop (mkF m 25 #[.val (.long q0), .second, .val (.long q1), .second, .val (.long q2), .second, .val (.long q3), .second, .val (.long q4), .second, .val (.int p5), .val (.int (0 : Int32)), .unset, .unset, .unset, .unset, .unset, .unset, .unset, .unset, .unset] []))
      refine own_step (fun t k => XS.iconst X0.here hx rfl (hb hby at_25) k) ?_
      show own_Ends p e below s _ _ _ (s₁.setTop (mkF m 26 #[.val (.long q0), .second, .val (.long q1), .second, .val (.long q2), .second, .val (.long q3), .second, .val (.long q4), .second, .val (.int p5), .val (.int (0 : Int32)), .unset, .unset, .unset, .unset, .unset, .unset, .unset, .unset, .unset] [(.int (0 : Int32))]))
      refine own_step (fun t k => XS.istore X0.here hx rfl (hb hby at_26) rfl (l' := #[.val (.long q0), .second, .val (.long q1), .second, .val (.long q2), .second, .val (.long q3), .second, .val (.long q4), .second, .val (.int p5), .val (.int (0 : Int32)), .val (.int (0 : Int32)), .unset, .unset, .unset, .unset, .unset, .unset, .unset, .unset]) rfl k) ?_
      show own_Ends p e below s _ _ _ (s₁.setTop (mkF m 28 #[.val (.long q0), .second, .val (.long q1), .second, .val (.long q2), .second, .val (.long q3), .second, .val (.long q4), .second, .val (.int p5), .val (.int (0 : Int32)), .val (.int (0 : Int32)), .unset, .unset, .unset, .unset, .unset, .unset, .unset, .unset] []))
      refine own_step (fun t k => XS.iload X0.here hx rfl (hb hby at_28) rfl k) ?_
      show own_Ends p e below s _ _ _ (s₁.setTop (mkF m 30 #[.val (.long q0), .second, .val (.long q1), .second, .val (.long q2), .second, .val (.long q3), .second, .val (.long q4), .second, .val (.int p5), .val (.int (0 : Int32)), .val (.int (0 : Int32)), .unset, .unset, .unset, .unset, .unset, .unset, .unset, .unset] [(.int (0 : Int32))]))
      refine own_step (fun t k => XS.ifYes X0.here hx rfl (pc0 := 30) (pc' := 37) rfl (hb hby at_30) rfl ((if0 _ _).trans (teq (by decide : ((0 : Int32) = (0 : Int32)))).1) (by decide) (by decide) k) ?_
      show own_Ends p e below s _ _ _ (s₁.setTop (mkF m 37 #[.val (.long q0), .second, .val (.long q1), .second, .val (.long q2), .second, .val (.long q3), .second, .val (.long q4), .second, .val (.int p5), .val (.int (0 : Int32)), .val (.int (0 : Int32)), .unset, .unset, .unset, .unset, .unset, .unset, .unset, .unset] []))
      refine own_step (fun t k => XS.lloadN X0.here hx rfl (hb hby at_37) rfl k) ?_
      show own_Ends p e below s _ _ _ (s₁.setTop (mkF m 38 #[.val (.long q0), .second, .val (.long q1), .second, .val (.long q2), .second, .val (.long q3), .second, .val (.long q4), .second, .val (.int p5), .val (.int (0 : Int32)), .val (.int (0 : Int32)), .unset, .unset, .unset, .unset, .unset, .unset, .unset, .unset] [(.long q1)]))
      refine own_step (fun t k => XS.lstore X0.here hx rfl (hb hby at_38) rfl (l' := #[.val (.long q0), .second, .val (.long q1), .second, .val (.long q2), .second, .val (.long q3), .second, .val (.long q4), .second, .val (.int p5), .val (.int (0 : Int32)), .val (.int (0 : Int32)), .val (.long q1), .second, .unset, .unset, .unset, .unset, .unset, .unset]) rfl k) ?_
      show own_Ends p e below s _ _ _ (s₁.setTop (mkF m 40 #[.val (.long q0), .second, .val (.long q1), .second, .val (.long q2), .second, .val (.long q3), .second, .val (.long q4), .second, .val (.int p5), .val (.int (0 : Int32)), .val (.int (0 : Int32)), .val (.long q1), .second, .unset, .unset, .unset, .unset, .unset, .unset] []))
      refine own_step (fun t k => XS.iload X0.here hx rfl (hb hby at_40) rfl k) ?_
      show own_Ends p e below s _ _ _ (s₁.setTop (mkF m 42 #[.val (.long q0), .second, .val (.long q1), .second, .val (.long q2), .second, .val (.long q3), .second, .val (.long q4), .second, .val (.int p5), .val (.int (0 : Int32)), .val (.int (0 : Int32)), .val (.long q1), .second, .unset, .unset, .unset, .unset, .unset, .unset] [(.int (0 : Int32))]))
      refine own_step (fun t k => XS.ifYes X0.here hx rfl (pc0 := 42) (pc' := 49) rfl (hb hby at_42) rfl ((if0 _ _).trans (teq (by decide : ((0 : Int32) = (0 : Int32)))).1) (by decide) (by decide) k) ?_
      show own_Ends p e below s _ _ _ (s₁.setTop (mkF m 49 #[.val (.long q0), .second, .val (.long q1), .second, .val (.long q2), .second, .val (.long q3), .second, .val (.long q4), .second, .val (.int p5), .val (.int (0 : Int32)), .val (.int (0 : Int32)), .val (.long q1), .second, .unset, .unset, .unset, .unset, .unset, .unset] []))
      refine own_step (fun t k => XS.lload X0.here hx rfl (hb hby at_49) rfl k) ?_
      show own_Ends p e below s _ _ _ (s₁.setTop (mkF m 51 #[.val (.long q0), .second, .val (.long q1), .second, .val (.long q2), .second, .val (.long q3), .second, .val (.long q4), .second, .val (.int p5), .val (.int (0 : Int32)), .val (.int (0 : Int32)), .val (.long q1), .second, .unset, .unset, .unset, .unset, .unset, .unset] [(.long q2)]))
      refine own_step (fun t k => XS.lstore X0.here hx rfl (hb hby at_51) rfl (l' := #[.val (.long q0), .second, .val (.long q1), .second, .val (.long q2), .second, .val (.long q3), .second, .val (.long q4), .second, .val (.int p5), .val (.int (0 : Int32)), .val (.int (0 : Int32)), .val (.long q1), .second, .val (.long q2), .second, .unset, .unset, .unset, .unset]) rfl k) ?_
      show own_Ends p e below s _ _ _ (s₁.setTop (mkF m 53 #[.val (.long q0), .second, .val (.long q1), .second, .val (.long q2), .second, .val (.long q3), .second, .val (.long q4), .second, .val (.int p5), .val (.int (0 : Int32)), .val (.int (0 : Int32)), .val (.long q1), .second, .val (.long q2), .second, .unset, .unset, .unset, .unset] []))
      obtain ⟨T3, h3, X3, e3, E3, A3, D3, -, st3⟩ := newO X0 hx hZ hown (hw _ (List.mem_of_getElem? (i := 0) rfl)) (hw _ (List.mem_of_getElem? (i := 1) rfl)) (hw _ (List.mem_of_getElem? (i := 2) rfl)) e0 (g := (mkF m 53 #[.val (.long q0), .second, .val (.long q1), .second, .val (.long q2), .second, .val (.long q3), .second, .val (.long q4), .second, .val (.int p5), .val (.int (0 : Int32)), .val (.int (0 : Int32)), .val (.long q1), .second, .val (.long q2), .second, .unset, .unset, .unset, .unset] [])) rfl (hb hby at_53) (by decide) (by decide)
      obtain ⟨b3, g3⟩ : ∃ z, z = h0.size := ⟨_, rfl⟩
      rw [← g3] at A3 D3 st3
      have gn_b3 : n0 ≤ b3 := Nat.le_trans Z0 (Nat.le_of_eq g3.symm)
      have Z3 : n0 ≤ h3.size := Nat.le_trans Z0 E3.1
      have F3_entries : Fld Z h3 b3 "com/example/hop_mutex/hopmutex/command/Simulation$Figures" "entries" "J" (.long (0 : Int64)) := D3 (Or.inr (hw _ (List.mem_of_getElem? (i := 15) rfl))) (ty := .long) (by decide)
      have F3_completed : Fld Z h3 b3 "com/example/hop_mutex/hopmutex/command/Simulation$Figures" "completed" "J" (.long (0 : Int64)) := D3 (Or.inr (hw _ (List.mem_of_getElem? (i := 17) rfl))) (ty := .long) (by decide)
      have F3_messages : Fld Z h3 b3 "com/example/hop_mutex/hopmutex/command/Simulation$Figures" "messages" "J" (.long (0 : Int64)) := D3 (Or.inr (hw _ (List.mem_of_getElem? (i := 19) rfl))) (ty := .long) (by decide)
      have F3_entryDelayMax : Fld Z h3 b3 "com/example/hop_mutex/hopmutex/command/Simulation$Figures" "entryDelayMax" "J" (.long (0 : Int64)) := D3 (Or.inr (hw _ (List.mem_of_getElem? (i := 21) rfl))) (ty := .long) (by decide)
      have F3_syncDelays : Fld Z h3 b3 "com/example/hop_mutex/hopmutex/command/Simulation$Figures" "syncDelays" "J" (.long (0 : Int64)) := D3 (Or.inr (hw _ (List.mem_of_getElem? (i := 23) rfl))) (ty := .long) (by decide)
      have F3_syncDelayMax : Fld Z h3 b3 "com/example/hop_mutex/hopmutex/command/Simulation$Figures" "syncDelayMax" "J" (.long (0 : Int64)) := D3 (Or.inr (hw _ (List.mem_of_getElem? (i := 25) rfl))) (ty := .long) (by decide)
      have F3_syncDelayTotal : Fld Z h3 b3 "com/example/hop_mutex/hopmutex/command/Simulation$Figures" "syncDelayTotal" "J" (.long (0 : Int64)) := D3 (Or.inr (hw _ (List.mem_of_getElem? (i := 27) rfl))) (ty := .long) (by decide)
      have F3_overlaps : Fld Z h3 b3 "com/example/hop_mutex/hopmutex/command/Simulation$Figures" "overlaps" "J" (.long (0 : Int64)) := D3 (Or.inr (hw _ (List.mem_of_getElem? (i := 29) rfl))) (ty := .long) (by decide)
      refine own_step st3 ?_
      show own_Ends p e below s _ _ _ (T3.setTop (mkF m 56 #[.val (.long q0), .second, .val (.long q1), .second, .val (.long q2), .second, .val (.long q3), .second, .val (.long q4), .second, .val (.int p5), .val (.int (0 : Int32)), .val (.int (0 : Int32)), .val (.long q1), .second, .val (.long q2), .second, .unset, .unset, .unset, .unset] [(.ref b3)]))
      refine own_step (fun t k => XS.dup X3.here hx rfl (hb hby at_56) rfl rfl k) ?_
      show own_Ends p e below s _ _ _ (T3.setTop (mkF m 57 #[.val (.long q0), .second, .val (.long q1), .second, .val (.long q2), .second, .val (.long q3), .second, .val (.long q4), .second, .val (.int p5), .val (.int (0 : Int32)), .val (.int (0 : Int32)), .val (.long q1), .second, .val (.long q2), .second, .unset, .unset, .unset, .unset] [(.ref b3), (.ref b3)]))
      refine own_step (fun t k => XS.lloadN X3.here hx rfl (hb hby at_57) rfl k) ?_
      show own_Ends p e below s _ _ _ (T3.setTop (mkF m 58 #[.val (.long q0), .second, .val (.long q1), .second, .val (.long q2), .second, .val (.long q3), .second, .val (.long q4), .second, .val (.int p5), .val (.int (0 : Int32)), .val (.int (0 : Int32)), .val (.long q1), .second, .val (.long q2), .second, .unset, .unset, .unset, .unset] [(.long q0), (.ref b3), (.ref b3)]))
      refine own_step (fun t k => XS.lload X3.here hx rfl (hb hby at_58) rfl k) ?_
      show own_Ends p e below s _ _ _ (T3.setTop (mkF m 60 #[.val (.long q0), .second, .val (.long q1), .second, .val (.long q2), .second, .val (.long q3), .second, .val (.long q4), .second, .val (.int p5), .val (.int (0 : Int32)), .val (.int (0 : Int32)), .val (.long q1), .second, .val (.long q2), .second, .unset, .unset, .unset, .unset] [(.long q1), (.long q0), (.ref b3), (.ref b3)]))
      refine own_step (fun t k => XS.lload X3.here hx rfl (hb hby at_60) rfl k) ?_
      show own_Ends p e below s _ _ _ (T3.setTop (mkF m 62 #[.val (.long q0), .second, .val (.long q1), .second, .val (.long q2), .second, .val (.long q3), .second, .val (.long q4), .second, .val (.int p5), .val (.int (0 : Int32)), .val (.int (0 : Int32)), .val (.long q1), .second, .val (.long q2), .second, .unset, .unset, .unset, .unset] [(.long q3), (.long q1), (.long q0), (.ref b3), (.ref b3)]))
      refine own_step (fun t k => XS.lload X3.here hx rfl (hb hby at_62) rfl k) ?_
      show own_Ends p e below s _ _ _ (T3.setTop (mkF m 64 #[.val (.long q0), .second, .val (.long q1), .second, .val (.long q2), .second, .val (.long q3), .second, .val (.long q4), .second, .val (.int p5), .val (.int (0 : Int32)), .val (.int (0 : Int32)), .val (.long q1), .second, .val (.long q2), .second, .unset, .unset, .unset, .unset] [(.long q4), (.long q3), (.long q1), (.long q0), (.ref b3), (.ref b3)]))
      refine own_step (fun t k => XS.lload X3.here hx rfl (hb hby at_64) rfl k) ?_
      show own_Ends p e below s _ _ _ (T3.setTop (mkF m 66 #[.val (.long q0), .second, .val (.long q1), .second, .val (.long q2), .second, .val (.long q3), .second, .val (.long q4), .second, .val (.int p5), .val (.int (0 : Int32)), .val (.int (0 : Int32)), .val (.long q1), .second, .val (.long q2), .second, .unset, .unset, .unset, .unset] [(.long q3), (.long q4), (.long q3), (.long q1), (.long q0), (.ref b3), (.ref b3)]))
      refine own_step (fun t k => XS.lload X3.here hx rfl (hb hby at_66) rfl k) ?_
      show own_Ends p e below s _ _ _ (T3.setTop (mkF m 68 #[.val (.long q0), .second, .val (.long q1), .second, .val (.long q2), .second, .val (.long q3), .second, .val (.long q4), .second, .val (.int p5), .val (.int (0 : Int32)), .val (.int (0 : Int32)), .val (.long q1), .second, .val (.long q2), .second, .unset, .unset, .unset, .unset] [(.long q4), (.long q3), (.long q4), (.long q3), (.long q1), (.long q0), (.ref b3), (.ref b3)]))
      refine own_step (fun t k => XS.lxor X3.here hx rfl (hb hby at_68) rfl k) ?_
      show own_Ends p e below s _ _ _ (T3.setTop (mkF m 69 #[.val (.long q0), .second, .val (.long q1), .second, .val (.long q2), .second, .val (.long q3), .second, .val (.long q4), .second, .val (.int p5), .val (.int (0 : Int32)), .val (.int (0 : Int32)), .val (.long q1), .second, .val (.long q2), .second, .unset, .unset, .unset, .unset] [(.long (q3 ^^^ q4)), (.long q4), (.long q3), (.long q1), (.long q0), (.ref b3), (.ref b3)]))
      refine own_step (fun t k => XS.iload X3.here hx rfl (hb hby at_69) rfl k) ?_
      show own_Ends p e below s _ _ _ (T3.setTop (mkF m 71 #[.val (.long q0), .second, .val (.long q1), .second, .val (.long q2), .second, .val (.long q3), .second, .val (.long q4), .second, .val (.int p5), .val (.int (0 : Int32)), .val (.int (0 : Int32)), .val (.long q1), .second, .val (.long q2), .second, .unset, .unset, .unset, .unset] [(.int p5), (.long (q3 ^^^ q4)), (.long q4), (.long q3), (.long q1), (.long q0), (.ref b3), (.ref b3)]))
      refine own_step (fun t k => XS.i2l X3.here hx rfl (hb hby at_71) rfl k) ?_
      show own_Ends p e below s _ _ _ (T3.setTop (mkF m 72 #[.val (.long q0), .second, .val (.long q1), .second, .val (.long q2), .second, .val (.long q3), .second, .val (.long q4), .second, .val (.int p5), .val (.int (0 : Int32)), .val (.int (0 : Int32)), .val (.long q1), .second, .val (.long q2), .second, .unset, .unset, .unset, .unset] [(.long (p5.toInt64)), (.long (q3 ^^^ q4)), (.long q4), (.long q3), (.long q1), (.long q0), (.ref b3), (.ref b3)]))
      refine own_step (fun t k => XS.lload X3.here hx rfl (hb hby at_72) rfl k) ?_
      show own_Ends p e below s _ _ _ (T3.setTop (mkF m 74 #[.val (.long q0), .second, .val (.long q1), .second, .val (.long q2), .second, .val (.long q3), .second, .val (.long q4), .second, .val (.int p5), .val (.int (0 : Int32)), .val (.int (0 : Int32)), .val (.long q1), .second, .val (.long q2), .second, .unset, .unset, .unset, .unset] [(.long q4), (.long (p5.toInt64)), (.long (q3 ^^^ q4)), (.long q4), (.long q3), (.long q1), (.long q0), (.ref b3), (.ref b3)]))
      refine own_step (fun t k => XS.lload X3.here hx rfl (hb hby at_74) rfl k) ?_
      show own_Ends p e below s _ _ _ (T3.setTop (mkF m 76 #[.val (.long q0), .second, .val (.long q1), .second, .val (.long q2), .second, .val (.long q3), .second, .val (.long q4), .second, .val (.int p5), .val (.int (0 : Int32)), .val (.int (0 : Int32)), .val (.long q1), .second, .val (.long q2), .second, .unset, .unset, .unset, .unset] [(.long q3), (.long q4), (.long (p5.toInt64)), (.long (q3 ^^^ q4)), (.long q4), (.long q3), (.long q1), (.long q0), (.ref b3), (.ref b3)]))
      refine own_step (fun t k => XS.lsub X3.here hx rfl (hb hby at_76) rfl k) ?_
      show own_Ends p e below s _ _ _ (T3.setTop (mkF m 77 #[.val (.long q0), .second, .val (.long q1), .second, .val (.long q2), .second, .val (.long q3), .second, .val (.long q4), .second, .val (.int p5), .val (.int (0 : Int32)), .val (.int (0 : Int32)), .val (.long q1), .second, .val (.long q2), .second, .unset, .unset, .unset, .unset] [(.long (q4 - q3)), (.long (p5.toInt64)), (.long (q3 ^^^ q4)), (.long q4), (.long q3), (.long q1), (.long q0), (.ref b3), (.ref b3)]))
      refine own_step (fun t k => XS.lload X3.here hx rfl (hb hby at_77) rfl k) ?_
      show own_Ends p e below s _ _ _ (T3.setTop (mkF m 79 #[.val (.long q0), .second, .val (.long q1), .second, .val (.long q2), .second, .val (.long q3), .second, .val (.long q4), .second, .val (.int p5), .val (.int (0 : Int32)), .val (.int (0 : Int32)), .val (.long q1), .second, .val (.long q2), .second, .unset, .unset, .unset, .unset] [(.long q2), (.long (q4 - q3)), (.long (p5.toInt64)), (.long (q3 ^^^ q4)), (.long q4), (.long q3), (.long q1), (.long q0), (.ref b3), (.ref b3)]))
      obtain ⟨_, _, ⟨T4, L4, k4, n4⟩, -, X4, ⟨Lc4, hQ4, l4, y4, z4⟩, st4⟩ := X3.specialBack hx (y := (⟨"com/example/hop_mutex/hopmutex/command/Simulation$Figures", "<init>", "(JJJJJJJJ)V"⟩ : MethodName)) rfl hown (mvT hZ (hw _ (List.mem_of_getElem? (i := 3) rfl))) (mvT hZ (hw _ (List.mem_of_getElem? (i := 4) rfl))) (mvT hZ (hw _ (List.mem_of_getElem? (i := 5) rfl))) (by decide) (backOf (W := 1) (rm1 l Z a0 hw [] b3 q0 q1 q3 q4 (q3 ^^^ q4) (p5.toInt64) (q4 - q3) q2  h3 n0 Z3 gn_b3 A3 F3_entries F3_completed F3_messages F3_entryDelayMax F3_syncDelays F3_syncDelayMax F3_syncDelayTotal F3_overlaps) hZ (hw _ (List.mem_of_getElem? (i := 5) rfl)) (hw _ (List.mem_of_getElem? (i := 2) rfl)) (by decide) (by decide)) (g := (mkF m 79 #[.val (.long q0), .second, .val (.long q1), .second, .val (.long q2), .second, .val (.long q3), .second, .val (.long q4), .second, .val (.int p5), .val (.int (0 : Int32)), .val (.int (0 : Int32)), .val (.long q1), .second, .val (.long q2), .second, .unset, .unset, .unset, .unset] [(.long q2), (.long (q4 - q3)), (.long (p5.toInt64)), (.long (q3 ^^^ q4)), (.long q4), (.long q3), (.long q1), (.long q0), (.ref b3), (.ref b3)])) rfl (by rw [hml]; rfl) (Steps.refl _) (a := b3) (argsL := [(.long q0), (.long q1), (.long q3), (.long q4), (.long (q3 ^^^ q4)), (.long (p5.toInt64)), (.long (q4 - q3)), (.long q2)]) (rest := [(.ref b3)]) (lenOf pd0_0 rfl) rfl (by show 2 * 0 + _ ≤ _; exact Nat.le_of_eq rfl) (hb hby at_79) (fun _ _ => ⟨rfl, e3, (by decide : 1 + 0 ≤ _), (by decide : 8 + 0 ≤ _)⟩)
      dsimp only [Pt.U, Pt.locs, Pt.cells, Pt.slots] at X4 l4 y4 z4 st4 hQ4
      subst l4 y4 z4
      obtain ⟨rfl, N4q, Z4, K4, E4_0, F4_entries, F4_completed, F4_messages, F4_entryDelayMax, F4_syncDelays, F4_syncDelayMax, F4_syncDelayTotal, F4_overlaps⟩ := hQ4
      have N4 := Fr.app N0 N4q
      refine own_step (fun t k => st4.trans k) ?_
      show own_Ends p e below s _ _ _ (T4.setTop (mkF m 82 #[.val (.long q0), .second, .val (.long q1), .second, .val (.long q2), .second, .val (.long q3), .second, .val (.long q4), .second, .val (.int p5), .val (.int (0 : Int32)), .val (.int (0 : Int32)), .val (.long q1), .second, .val (.long q2), .second, .unset, .unset, .unset, .unset] [(.ref b3)]))
      refine own_step (fun t k => XS.astore X4.here hx rfl (hb hby at_82) rfl rfl (l' := #[.val (.long q0), .second, .val (.long q1), .second, .val (.long q2), .second, .val (.long q3), .second, .val (.long q4), .second, .val (.int p5), .val (.int (0 : Int32)), .val (.int (0 : Int32)), .val (.long q1), .second, .val (.long q2), .second, .val (.ref b3), .unset, .unset, .unset]) rfl k) ?_
      show own_Ends p e below s _ _ _ (T4.setTop (mkF m 84 #[.val (.long q0), .second, .val (.long q1), .second, .val (.long q2), .second, .val (.long q3), .second, .val (.long q4), .second, .val (.int p5), .val (.int (0 : Int32)), .val (.int (0 : Int32)), .val (.long q1), .second, .val (.long q2), .second, .val (.ref b3), .unset, .unset, .unset] []))
      refine own_step (fun t k => XS.iload X4.here hx rfl (hb hby at_84) rfl k) ?_
      show own_Ends p e below s _ _ _ (T4.setTop (mkF m 86 #[.val (.long q0), .second, .val (.long q1), .second, .val (.long q2), .second, .val (.long q3), .second, .val (.long q4), .second, .val (.int p5), .val (.int (0 : Int32)), .val (.int (0 : Int32)), .val (.long q1), .second, .val (.long q2), .second, .val (.ref b3), .unset, .unset, .unset] [(.int (0 : Int32))]))
      refine own_step (fun t k => XS.ifNo X4.here hx rfl (hb hby at_86) rfl ((if0 _ _).trans (teq (by decide : ((0 : Int32) = (0 : Int32)))).2) k) ?_
      show own_Ends p e below s _ _ _ (T4.setTop (mkF m 89 #[.val (.long q0), .second, .val (.long q1), .second, .val (.long q2), .second, .val (.long q3), .second, .val (.long q4), .second, .val (.int p5), .val (.int (0 : Int32)), .val (.int (0 : Int32)), .val (.long q1), .second, .val (.long q2), .second, .val (.ref b3), .unset, .unset, .unset] []))
      refine own_step (fun t k => XS.lloadN X4.here hx rfl (hb hby at_89) rfl k) ?_
      show own_Ends p e below s _ _ _ (T4.setTop (mkF m 90 #[.val (.long q0), .second, .val (.long q1), .second, .val (.long q2), .second, .val (.long q3), .second, .val (.long q4), .second, .val (.int p5), .val (.int (0 : Int32)), .val (.int (0 : Int32)), .val (.long q1), .second, .val (.long q2), .second, .val (.ref b3), .unset, .unset, .unset] [(.long q1)]))
      refine own_step (fun t k => XS.lloadN X4.here hx rfl (hb hby at_90) rfl k) ?_
      show own_Ends p e below s _ _ _ (T4.setTop (mkF m 91 #[.val (.long q0), .second, .val (.long q1), .second, .val (.long q2), .second, .val (.long q3), .second, .val (.long q4), .second, .val (.int p5), .val (.int (0 : Int32)), .val (.int (0 : Int32)), .val (.long q1), .second, .val (.long q2), .second, .val (.ref b3), .unset, .unset, .unset] [(.long q0), (.long q1)]))
      refine own_step (fun t k => XS.lcmp X4.here hx rfl (hb hby at_91) rfl k) ?_
      show own_Ends p e below s _ _ _ (T4.setTop (mkF m 92 #[.val (.long q0), .second, .val (.long q1), .second, .val (.long q2), .second, .val (.long q3), .second, .val (.long q4), .second, .val (.int p5), .val (.int (0 : Int32)), .val (.int (0 : Int32)), .val (.long q1), .second, .val (.long q2), .second, .val (.ref b3), .unset, .unset, .unset] [(.int (lcmpW q1 q0))]))
      by_cases hc92_5 : q1 = q0
      · -- q1 = q0
        refine own_step (fun t k => XS.ifNo X4.here hx rfl (hb hby at_92) rfl ((if0 _ _).trans (teq ((lw_eq q1 q0).mpr hc92_5)).2) k) ?_
        show own_Ends p e below s _ _ _ (T4.setTop (mkF m 95 #[.val (.long q0), .second, .val (.long q1), .second, .val (.long q2), .second, .val (.long q3), .second, .val (.long q4), .second, .val (.int p5), .val (.int (0 : Int32)), .val (.int (0 : Int32)), .val (.long q1), .second, .val (.long q2), .second, .val (.ref b3), .unset, .unset, .unset] []))
        refine own_step (fun t k => XS.iconst X4.here hx rfl (hb hby at_95) k) ?_
        show own_Ends p e below s _ _ _ (T4.setTop (mkF m 96 #[.val (.long q0), .second, .val (.long q1), .second, .val (.long q2), .second, .val (.long q3), .second, .val (.long q4), .second, .val (.int p5), .val (.int (0 : Int32)), .val (.int (0 : Int32)), .val (.long q1), .second, .val (.long q2), .second, .val (.ref b3), .unset, .unset, .unset] [(.int (1 : Int32))]))
        refine own_step (fun t k => XS.goto X4.here hx rfl (pc0 := 96) (pc' := 100) rfl (hb hby at_96) (by decide) (by decide) k) ?_
        show own_Ends p e below s _ _ _ (T4.setTop (mkF m 100 #[.val (.long q0), .second, .val (.long q1), .second, .val (.long q2), .second, .val (.long q3), .second, .val (.long q4), .second, .val (.int p5), .val (.int (0 : Int32)), .val (.int (0 : Int32)), .val (.long q1), .second, .val (.long q2), .second, .val (.ref b3), .unset, .unset, .unset] [(.int (1 : Int32))]))
        refine own_step (fun t k => XS.istore X4.here hx rfl (hb hby at_100) rfl (l' := #[.val (.long q0), .second, .val (.long q1), .second, .val (.long q2), .second, .val (.long q3), .second, .val (.long q4), .second, .val (.int p5), .val (.int (0 : Int32)), .val (.int (0 : Int32)), .val (.long q1), .second, .val (.long q2), .second, .val (.ref b3), .val (.int (1 : Int32)), .unset, .unset]) rfl k) ?_
        show own_Ends p e below s _ _ _ (T4.setTop (mkF m 102 #[.val (.long q0), .second, .val (.long q1), .second, .val (.long q2), .second, .val (.long q3), .second, .val (.long q4), .second, .val (.int p5), .val (.int (0 : Int32)), .val (.int (0 : Int32)), .val (.long q1), .second, .val (.long q2), .second, .val (.ref b3), .val (.int (1 : Int32)), .unset, .unset] []))
        refine own_step (fun t k => XS.iload X4.here hx rfl (hb hby at_102) rfl k) ?_
        show own_Ends p e below s _ _ _ (T4.setTop (mkF m 104 #[.val (.long q0), .second, .val (.long q1), .second, .val (.long q2), .second, .val (.long q3), .second, .val (.long q4), .second, .val (.int p5), .val (.int (0 : Int32)), .val (.int (0 : Int32)), .val (.long q1), .second, .val (.long q2), .second, .val (.ref b3), .val (.int (1 : Int32)), .unset, .unset] [(.int (0 : Int32))]))
        refine own_step (fun t k => XS.ifNo X4.here hx rfl (hb hby at_104) rfl ((if0 _ _).trans (teq (by decide : ((0 : Int32) = (0 : Int32)))).2) k) ?_
        show own_Ends p e below s _ _ _ (T4.setTop (mkF m 107 #[.val (.long q0), .second, .val (.long q1), .second, .val (.long q2), .second, .val (.long q3), .second, .val (.long q4), .second, .val (.int p5), .val (.int (0 : Int32)), .val (.int (0 : Int32)), .val (.long q1), .second, .val (.long q2), .second, .val (.ref b3), .val (.int (1 : Int32)), .unset, .unset] []))
        refine own_step (fun t k => XS.lload X4.here hx rfl (hb hby at_107) rfl k) ?_
        show own_Ends p e below s _ _ _ (T4.setTop (mkF m 109 #[.val (.long q0), .second, .val (.long q1), .second, .val (.long q2), .second, .val (.long q3), .second, .val (.long q4), .second, .val (.int p5), .val (.int (0 : Int32)), .val (.int (0 : Int32)), .val (.long q1), .second, .val (.long q2), .second, .val (.ref b3), .val (.int (1 : Int32)), .unset, .unset] [(.long q2)]))
        refine own_step (fun t k => XS.lconst X4.here hx rfl (hb hby at_109) k) ?_
        show own_Ends p e below s _ _ _ (T4.setTop (mkF m 110 #[.val (.long q0), .second, .val (.long q1), .second, .val (.long q2), .second, .val (.long q3), .second, .val (.long q4), .second, .val (.int p5), .val (.int (0 : Int32)), .val (.int (0 : Int32)), .val (.long q1), .second, .val (.long q2), .second, .val (.ref b3), .val (.int (1 : Int32)), .unset, .unset] [(.long (0 : Int64)), (.long q2)]))
        refine own_step (fun t k => XS.lcmp X4.here hx rfl (hb hby at_110) rfl k) ?_
        show own_Ends p e below s _ _ _ (T4.setTop (mkF m 111 #[.val (.long q0), .second, .val (.long q1), .second, .val (.long q2), .second, .val (.long q3), .second, .val (.long q4), .second, .val (.int p5), .val (.int (0 : Int32)), .val (.int (0 : Int32)), .val (.long q1), .second, .val (.long q2), .second, .val (.ref b3), .val (.int (1 : Int32)), .unset, .unset] [(.int (lcmpW q2 (0 : Int64)))]))
        by_cases hc111_6 : q2 = (0 : Int64)
        · -- q2 = (0 : Int64)
          refine own_step (fun t k => XS.ifNo X4.here hx rfl (hb hby at_111) rfl ((if0 _ _).trans (teq ((lw_eq q2 (0 : Int64)).mpr hc111_6)).2) k) ?_
          show own_Ends p e below s _ _ _ (T4.setTop (mkF m 114 #[.val (.long q0), .second, .val (.long q1), .second, .val (.long q2), .second, .val (.long q3), .second, .val (.long q4), .second, .val (.int p5), .val (.int (0 : Int32)), .val (.int (0 : Int32)), .val (.long q1), .second, .val (.long q2), .second, .val (.ref b3), .val (.int (1 : Int32)), .unset, .unset] []))
          refine own_step (fun t k => XS.iconst X4.here hx rfl (hb hby at_114) k) ?_
          show own_Ends p e below s _ _ _ (T4.setTop (mkF m 115 #[.val (.long q0), .second, .val (.long q1), .second, .val (.long q2), .second, .val (.long q3), .second, .val (.long q4), .second, .val (.int p5), .val (.int (0 : Int32)), .val (.int (0 : Int32)), .val (.long q1), .second, .val (.long q2), .second, .val (.ref b3), .val (.int (1 : Int32)), .unset, .unset] [(.int (1 : Int32))]))
          refine own_step (fun t k => XS.goto X4.here hx rfl (pc0 := 115) (pc' := 119) rfl (hb hby at_115) (by decide) (by decide) k) ?_
          show own_Ends p e below s _ _ _ (T4.setTop (mkF m 119 #[.val (.long q0), .second, .val (.long q1), .second, .val (.long q2), .second, .val (.long q3), .second, .val (.long q4), .second, .val (.int p5), .val (.int (0 : Int32)), .val (.int (0 : Int32)), .val (.long q1), .second, .val (.long q2), .second, .val (.ref b3), .val (.int (1 : Int32)), .unset, .unset] [(.int (1 : Int32))]))
          refine own_step (fun t k => XS.istore X4.here hx rfl (hb hby at_119) rfl (l' := #[.val (.long q0), .second, .val (.long q1), .second, .val (.long q2), .second, .val (.long q3), .second, .val (.long q4), .second, .val (.int p5), .val (.int (0 : Int32)), .val (.int (0 : Int32)), .val (.long q1), .second, .val (.long q2), .second, .val (.ref b3), .val (.int (1 : Int32)), .val (.int (1 : Int32)), .unset]) rfl k) ?_
          show own_Ends p e below s _ _ _ (T4.setTop (mkF m 121 #[.val (.long q0), .second, .val (.long q1), .second, .val (.long q2), .second, .val (.long q3), .second, .val (.long q4), .second, .val (.int p5), .val (.int (0 : Int32)), .val (.int (0 : Int32)), .val (.long q1), .second, .val (.long q2), .second, .val (.ref b3), .val (.int (1 : Int32)), .val (.int (1 : Int32)), .unset] []))
          refine own_step (fun t k => XS.iload X4.here hx rfl (hb hby at_121) rfl k) ?_
          show own_Ends p e below s _ _ _ (T4.setTop (mkF m 123 #[.val (.long q0), .second, .val (.long q1), .second, .val (.long q2), .second, .val (.long q3), .second, .val (.long q4), .second, .val (.int p5), .val (.int (0 : Int32)), .val (.int (0 : Int32)), .val (.long q1), .second, .val (.long q2), .second, .val (.ref b3), .val (.int (1 : Int32)), .val (.int (1 : Int32)), .unset] [(.int (1 : Int32))]))
          refine own_step (fun t k => XS.ifNo X4.here hx rfl (hb hby at_123) rfl ((if0 _ _).trans (feq (by decide : ¬ ((1 : Int32) = (0 : Int32)))).1) k) ?_
          show own_Ends p e below s _ _ _ (T4.setTop (mkF m 126 #[.val (.long q0), .second, .val (.long q1), .second, .val (.long q2), .second, .val (.long q3), .second, .val (.long q4), .second, .val (.int p5), .val (.int (0 : Int32)), .val (.int (0 : Int32)), .val (.long q1), .second, .val (.long q2), .second, .val (.ref b3), .val (.int (1 : Int32)), .val (.int (1 : Int32)), .unset] []))
          refine own_step (fun t k => XS.iload X4.here hx rfl (hb hby at_126) rfl k) ?_
          show own_Ends p e below s _ _ _ (T4.setTop (mkF m 128 #[.val (.long q0), .second, .val (.long q1), .second, .val (.long q2), .second, .val (.long q3), .second, .val (.long q4), .second, .val (.int p5), .val (.int (0 : Int32)), .val (.int (0 : Int32)), .val (.long q1), .second, .val (.long q2), .second, .val (.ref b3), .val (.int (1 : Int32)), .val (.int (1 : Int32)), .unset] [(.int (1 : Int32))]))
          refine own_step (fun t k => XS.ifNo X4.here hx rfl (hb hby at_128) rfl ((if0 _ _).trans (feq (by decide : ¬ ((1 : Int32) = (0 : Int32)))).1) k) ?_
          show own_Ends p e below s _ _ _ (T4.setTop (mkF m 131 #[.val (.long q0), .second, .val (.long q1), .second, .val (.long q2), .second, .val (.long q3), .second, .val (.long q4), .second, .val (.int p5), .val (.int (0 : Int32)), .val (.int (0 : Int32)), .val (.long q1), .second, .val (.long q2), .second, .val (.ref b3), .val (.int (1 : Int32)), .val (.int (1 : Int32)), .unset] []))
          refine own_step (fun t k => XS.iconst X4.here hx rfl (hb hby at_131) k) ?_
          show own_Ends p e below s _ _ _ (T4.setTop (mkF m 132 #[.val (.long q0), .second, .val (.long q1), .second, .val (.long q2), .second, .val (.long q3), .second, .val (.long q4), .second, .val (.int p5), .val (.int (0 : Int32)), .val (.int (0 : Int32)), .val (.long q1), .second, .val (.long q2), .second, .val (.ref b3), .val (.int (1 : Int32)), .val (.int (1 : Int32)), .unset] [(.int (1 : Int32))]))
          refine own_step (fun t k => XS.goto X4.here hx rfl (pc0 := 132) (pc' := 136) rfl (hb hby at_132) (by decide) (by decide) k) ?_
          show own_Ends p e below s _ _ _ (T4.setTop (mkF m 136 #[.val (.long q0), .second, .val (.long q1), .second, .val (.long q2), .second, .val (.long q3), .second, .val (.long q4), .second, .val (.int p5), .val (.int (0 : Int32)), .val (.int (0 : Int32)), .val (.long q1), .second, .val (.long q2), .second, .val (.ref b3), .val (.int (1 : Int32)), .val (.int (1 : Int32)), .unset] [(.int (1 : Int32))]))
          refine own_step (fun t k => XS.istore X4.here hx rfl (hb hby at_136) rfl (l' := #[.val (.long q0), .second, .val (.long q1), .second, .val (.long q2), .second, .val (.long q3), .second, .val (.long q4), .second, .val (.int p5), .val (.int (0 : Int32)), .val (.int (0 : Int32)), .val (.long q1), .second, .val (.long q2), .second, .val (.ref b3), .val (.int (1 : Int32)), .val (.int (1 : Int32)), .val (.int (1 : Int32))]) rfl k) ?_
          show own_Ends p e below s _ _ _ (T4.setTop (mkF m 138 #[.val (.long q0), .second, .val (.long q1), .second, .val (.long q2), .second, .val (.long q3), .second, .val (.long q4), .second, .val (.int p5), .val (.int (0 : Int32)), .val (.int (0 : Int32)), .val (.long q1), .second, .val (.long q2), .second, .val (.ref b3), .val (.int (1 : Int32)), .val (.int (1 : Int32)), .val (.int (1 : Int32))] []))
          refine own_step (fun t k => XS.aload X4.here hx rfl (hb hby at_138) rfl rfl k) ?_
          show own_Ends p e below s _ _ _ (T4.setTop (mkF m 140 #[.val (.long q0), .second, .val (.long q1), .second, .val (.long q2), .second, .val (.long q3), .second, .val (.long q4), .second, .val (.int p5), .val (.int (0 : Int32)), .val (.int (0 : Int32)), .val (.long q1), .second, .val (.long q2), .second, .val (.ref b3), .val (.int (1 : Int32)), .val (.int (1 : Int32)), .val (.int (1 : Int32))] [(.ref b3)]))
          obtain ⟨cq7, kq7, q7a, q7b, q7c⟩ := isOf hZ rfl E4_0
          obtain ⟨_, _, ⟨T7, L7, k7, n7⟩, -, X7, ⟨Lc7, hQ7, l7, y7, z7⟩, st7⟩ := X4.virtualBack hx (y := (⟨"com/example/hop_mutex/hopmutex/command/Simulation$Figures", "succeeded", "()Z"⟩ : MethodName)) (z := (⟨"com/example/hop_mutex/hopmutex/command/Simulation$Figures", "succeeded", "()Z"⟩ : MethodName)) hown (mvT hZ (hw _ (List.mem_of_getElem? (i := 30) rfl))) (mvT hZ (hw _ (List.mem_of_getElem? (i := 31) rfl))) (notFace_of_selects (args := #[]) (mvT hZ (hw _ (List.mem_of_getElem? (i := 33) rfl)))) (mvT hZ (hw _ (List.mem_of_getElem? (i := 33) rfl))) (mvT hZ (hw _ (List.mem_of_getElem? (i := 32) rfl))) (by decide) (backOf (W := 0) (rm4 l Z a0 hw [] b3 q1 q0 q2 T4.heap n0 F4_completed F4_entries F4_overlaps ) hZ (hw _ (List.mem_of_getElem? (i := 34) rfl)) (hw _ (List.mem_of_getElem? (i := 2) rfl)) (by decide) (by decide)) q7a q7c (g := (mkF m 140 #[.val (.long q0), .second, .val (.long q1), .second, .val (.long q2), .second, .val (.long q3), .second, .val (.long q4), .second, .val (.int p5), .val (.int (0 : Int32)), .val (.int (0 : Int32)), .val (.long q1), .second, .val (.long q2), .second, .val (.ref b3), .val (.int (1 : Int32)), .val (.int (1 : Int32)), .val (.int (1 : Int32))] [(.ref b3)])) rfl (by rw [hml]; rfl) (Steps.refl _) (argsL := []) (rest := []) (lenOf pd0_1 rfl) rfl (by show 2 * 0 + _ ≤ _; exact Nat.le_of_eq rfl) (hb hby at_140) (fun _ _ => ⟨rfl, rfl, (by decide : 1 + 0 ≤ _), (by decide : 8 + 0 ≤ _)⟩)
          dsimp only [Pt.U, Pt.locs, Pt.cells, Pt.slots] at X7 l7 y7 z7 st7 hQ7
          subst l7 y7 z7
          obtain ⟨rfl, N7q, e7⟩ := hQ7
          have N7 := Fr.app N4 N7q
          refine own_step (fun t k => st7.trans k) ?_
          show own_Ends p e below s _ _ _ (T7.setTop (mkF m 143 #[.val (.long q0), .second, .val (.long q1), .second, .val (.long q2), .second, .val (.long q3), .second, .val (.long q4), .second, .val (.int p5), .val (.int (0 : Int32)), .val (.int (0 : Int32)), .val (.long q1), .second, .val (.long q2), .second, .val (.ref b3), .val (.int (1 : Int32)), .val (.int (1 : Int32)), .val (.int (1 : Int32))] [(.int (f4_0 q1 q0 q2))]))
          refine own_step (fun t k => XS.iload X7.here hx rfl (hb hby at_143) rfl k) ?_
          show own_Ends p e below s _ _ _ (T7.setTop (mkF m 145 #[.val (.long q0), .second, .val (.long q1), .second, .val (.long q2), .second, .val (.long q3), .second, .val (.long q4), .second, .val (.int p5), .val (.int (0 : Int32)), .val (.int (0 : Int32)), .val (.long q1), .second, .val (.long q2), .second, .val (.ref b3), .val (.int (1 : Int32)), .val (.int (1 : Int32)), .val (.int (1 : Int32))] [(.int (1 : Int32)), (.int (f4_0 q1 q0 q2))]))
          refine own_step (fun t k => XS.icmpNo X7.here hx rfl (hb hby at_145) rfl (teq (show (f4_0 q1 q0 q2) = (1 : Int32) from by simp [f4_0, hc92_5, hc111_6])).2 k) ?_
          show own_Ends p e below s _ _ _ (T7.setTop (mkF m 148 #[.val (.long q0), .second, .val (.long q1), .second, .val (.long q2), .second, .val (.long q3), .second, .val (.long q4), .second, .val (.int p5), .val (.int (0 : Int32)), .val (.int (0 : Int32)), .val (.long q1), .second, .val (.long q2), .second, .val (.ref b3), .val (.int (1 : Int32)), .val (.int (1 : Int32)), .val (.int (1 : Int32))] []))
          refine own_step (fun t k => XS.iconst X7.here hx rfl (hb hby at_148) k) ?_
          show own_Ends p e below s _ _ _ (T7.setTop (mkF m 149 #[.val (.long q0), .second, .val (.long q1), .second, .val (.long q2), .second, .val (.long q3), .second, .val (.long q4), .second, .val (.int p5), .val (.int (0 : Int32)), .val (.int (0 : Int32)), .val (.long q1), .second, .val (.long q2), .second, .val (.ref b3), .val (.int (1 : Int32)), .val (.int (1 : Int32)), .val (.int (1 : Int32))] [(.int (1 : Int32))]))
          refine own_step (fun t k => XS.goto X7.here hx rfl (pc0 := 149) (pc' := 153) rfl (hb hby at_149) (by decide) (by decide) k) ?_
          show own_Ends p e below s _ _ _ (T7.setTop (mkF m 153 #[.val (.long q0), .second, .val (.long q1), .second, .val (.long q2), .second, .val (.long q3), .second, .val (.long q4), .second, .val (.int p5), .val (.int (0 : Int32)), .val (.int (0 : Int32)), .val (.long q1), .second, .val (.long q2), .second, .val (.ref b3), .val (.int (1 : Int32)), .val (.int (1 : Int32)), .val (.int (1 : Int32))] [(.int (1 : Int32))]))
          exact own_retN X7 hx hlk (t := .boolean) hret (by simp) (hb hby at_153) (w := (1 : Int32)) (by decide) ⟨rfl, N7⟩ (by decide) (by decide)
        · -- not q2 = (0 : Int64)
          refine own_step (fun t k => XS.ifYes X4.here hx rfl (pc0 := 111) (pc' := 118) rfl (hb hby at_111) rfl ((if0 _ _).trans (feq (fun q => hc111_6 ((lw_eq q2 (0 : Int64)).mp q))).2) (by decide) (by decide) k) ?_
          show own_Ends p e below s _ _ _ (T4.setTop (mkF m 118 #[.val (.long q0), .second, .val (.long q1), .second, .val (.long q2), .second, .val (.long q3), .second, .val (.long q4), .second, .val (.int p5), .val (.int (0 : Int32)), .val (.int (0 : Int32)), .val (.long q1), .second, .val (.long q2), .second, .val (.ref b3), .val (.int (1 : Int32)), .unset, .unset] []))
          refine own_step (fun t k => XS.iconst X4.here hx rfl (hb hby at_118) k) ?_
          show own_Ends p e below s _ _ _ (T4.setTop (mkF m 119 #[.val (.long q0), .second, .val (.long q1), .second, .val (.long q2), .second, .val (.long q3), .second, .val (.long q4), .second, .val (.int p5), .val (.int (0 : Int32)), .val (.int (0 : Int32)), .val (.long q1), .second, .val (.long q2), .second, .val (.ref b3), .val (.int (1 : Int32)), .unset, .unset] [(.int (0 : Int32))]))
          refine own_step (fun t k => XS.istore X4.here hx rfl (hb hby at_119) rfl (l' := #[.val (.long q0), .second, .val (.long q1), .second, .val (.long q2), .second, .val (.long q3), .second, .val (.long q4), .second, .val (.int p5), .val (.int (0 : Int32)), .val (.int (0 : Int32)), .val (.long q1), .second, .val (.long q2), .second, .val (.ref b3), .val (.int (1 : Int32)), .val (.int (0 : Int32)), .unset]) rfl k) ?_
          show own_Ends p e below s _ _ _ (T4.setTop (mkF m 121 #[.val (.long q0), .second, .val (.long q1), .second, .val (.long q2), .second, .val (.long q3), .second, .val (.long q4), .second, .val (.int p5), .val (.int (0 : Int32)), .val (.int (0 : Int32)), .val (.long q1), .second, .val (.long q2), .second, .val (.ref b3), .val (.int (1 : Int32)), .val (.int (0 : Int32)), .unset] []))
          refine own_step (fun t k => XS.iload X4.here hx rfl (hb hby at_121) rfl k) ?_
          show own_Ends p e below s _ _ _ (T4.setTop (mkF m 123 #[.val (.long q0), .second, .val (.long q1), .second, .val (.long q2), .second, .val (.long q3), .second, .val (.long q4), .second, .val (.int p5), .val (.int (0 : Int32)), .val (.int (0 : Int32)), .val (.long q1), .second, .val (.long q2), .second, .val (.ref b3), .val (.int (1 : Int32)), .val (.int (0 : Int32)), .unset] [(.int (1 : Int32))]))
          refine own_step (fun t k => XS.ifNo X4.here hx rfl (hb hby at_123) rfl ((if0 _ _).trans (feq (by decide : ¬ ((1 : Int32) = (0 : Int32)))).1) k) ?_
          show own_Ends p e below s _ _ _ (T4.setTop (mkF m 126 #[.val (.long q0), .second, .val (.long q1), .second, .val (.long q2), .second, .val (.long q3), .second, .val (.long q4), .second, .val (.int p5), .val (.int (0 : Int32)), .val (.int (0 : Int32)), .val (.long q1), .second, .val (.long q2), .second, .val (.ref b3), .val (.int (1 : Int32)), .val (.int (0 : Int32)), .unset] []))
          refine own_step (fun t k => XS.iload X4.here hx rfl (hb hby at_126) rfl k) ?_
          show own_Ends p e below s _ _ _ (T4.setTop (mkF m 128 #[.val (.long q0), .second, .val (.long q1), .second, .val (.long q2), .second, .val (.long q3), .second, .val (.long q4), .second, .val (.int p5), .val (.int (0 : Int32)), .val (.int (0 : Int32)), .val (.long q1), .second, .val (.long q2), .second, .val (.ref b3), .val (.int (1 : Int32)), .val (.int (0 : Int32)), .unset] [(.int (0 : Int32))]))
          refine own_step (fun t k => XS.ifYes X4.here hx rfl (pc0 := 128) (pc' := 135) rfl (hb hby at_128) rfl ((if0 _ _).trans (teq (by decide : ((0 : Int32) = (0 : Int32)))).1) (by decide) (by decide) k) ?_
          show own_Ends p e below s _ _ _ (T4.setTop (mkF m 135 #[.val (.long q0), .second, .val (.long q1), .second, .val (.long q2), .second, .val (.long q3), .second, .val (.long q4), .second, .val (.int p5), .val (.int (0 : Int32)), .val (.int (0 : Int32)), .val (.long q1), .second, .val (.long q2), .second, .val (.ref b3), .val (.int (1 : Int32)), .val (.int (0 : Int32)), .unset] []))
          refine own_step (fun t k => XS.iconst X4.here hx rfl (hb hby at_135) k) ?_
          show own_Ends p e below s _ _ _ (T4.setTop (mkF m 136 #[.val (.long q0), .second, .val (.long q1), .second, .val (.long q2), .second, .val (.long q3), .second, .val (.long q4), .second, .val (.int p5), .val (.int (0 : Int32)), .val (.int (0 : Int32)), .val (.long q1), .second, .val (.long q2), .second, .val (.ref b3), .val (.int (1 : Int32)), .val (.int (0 : Int32)), .unset] [(.int (0 : Int32))]))
          refine own_step (fun t k => XS.istore X4.here hx rfl (hb hby at_136) rfl (l' := #[.val (.long q0), .second, .val (.long q1), .second, .val (.long q2), .second, .val (.long q3), .second, .val (.long q4), .second, .val (.int p5), .val (.int (0 : Int32)), .val (.int (0 : Int32)), .val (.long q1), .second, .val (.long q2), .second, .val (.ref b3), .val (.int (1 : Int32)), .val (.int (0 : Int32)), .val (.int (0 : Int32))]) rfl k) ?_
          show own_Ends p e below s _ _ _ (T4.setTop (mkF m 138 #[.val (.long q0), .second, .val (.long q1), .second, .val (.long q2), .second, .val (.long q3), .second, .val (.long q4), .second, .val (.int p5), .val (.int (0 : Int32)), .val (.int (0 : Int32)), .val (.long q1), .second, .val (.long q2), .second, .val (.ref b3), .val (.int (1 : Int32)), .val (.int (0 : Int32)), .val (.int (0 : Int32))] []))
          refine own_step (fun t k => XS.aload X4.here hx rfl (hb hby at_138) rfl rfl k) ?_
          show own_Ends p e below s _ _ _ (T4.setTop (mkF m 140 #[.val (.long q0), .second, .val (.long q1), .second, .val (.long q2), .second, .val (.long q3), .second, .val (.long q4), .second, .val (.int p5), .val (.int (0 : Int32)), .val (.int (0 : Int32)), .val (.long q1), .second, .val (.long q2), .second, .val (.ref b3), .val (.int (1 : Int32)), .val (.int (0 : Int32)), .val (.int (0 : Int32))] [(.ref b3)]))
          obtain ⟨cq8, kq8, q8a, q8b, q8c⟩ := isOf hZ rfl E4_0
          obtain ⟨_, _, ⟨T8, L8, k8, n8⟩, -, X8, ⟨Lc8, hQ8, l8, y8, z8⟩, st8⟩ := X4.virtualBack hx (y := (⟨"com/example/hop_mutex/hopmutex/command/Simulation$Figures", "succeeded", "()Z"⟩ : MethodName)) (z := (⟨"com/example/hop_mutex/hopmutex/command/Simulation$Figures", "succeeded", "()Z"⟩ : MethodName)) hown (mvT hZ (hw _ (List.mem_of_getElem? (i := 30) rfl))) (mvT hZ (hw _ (List.mem_of_getElem? (i := 31) rfl))) (notFace_of_selects (args := #[]) (mvT hZ (hw _ (List.mem_of_getElem? (i := 33) rfl)))) (mvT hZ (hw _ (List.mem_of_getElem? (i := 33) rfl))) (mvT hZ (hw _ (List.mem_of_getElem? (i := 32) rfl))) (by decide) (backOf (W := 0) (rm4 l Z a0 hw [] b3 q1 q0 q2 T4.heap n0 F4_completed F4_entries F4_overlaps ) hZ (hw _ (List.mem_of_getElem? (i := 34) rfl)) (hw _ (List.mem_of_getElem? (i := 2) rfl)) (by decide) (by decide)) q8a q8c (g := (mkF m 140 #[.val (.long q0), .second, .val (.long q1), .second, .val (.long q2), .second, .val (.long q3), .second, .val (.long q4), .second, .val (.int p5), .val (.int (0 : Int32)), .val (.int (0 : Int32)), .val (.long q1), .second, .val (.long q2), .second, .val (.ref b3), .val (.int (1 : Int32)), .val (.int (0 : Int32)), .val (.int (0 : Int32))] [(.ref b3)])) rfl (by rw [hml]; rfl) (Steps.refl _) (argsL := []) (rest := []) (lenOf pd0_1 rfl) rfl (by show 2 * 0 + _ ≤ _; exact Nat.le_of_eq rfl) (hb hby at_140) (fun _ _ => ⟨rfl, rfl, (by decide : 1 + 0 ≤ _), (by decide : 8 + 0 ≤ _)⟩)
          dsimp only [Pt.U, Pt.locs, Pt.cells, Pt.slots] at X8 l8 y8 z8 st8 hQ8
          subst l8 y8 z8
          obtain ⟨rfl, N8q, e8⟩ := hQ8
          have N8 := Fr.app N4 N8q
          refine own_step (fun t k => st8.trans k) ?_
          show own_Ends p e below s _ _ _ (T8.setTop (mkF m 143 #[.val (.long q0), .second, .val (.long q1), .second, .val (.long q2), .second, .val (.long q3), .second, .val (.long q4), .second, .val (.int p5), .val (.int (0 : Int32)), .val (.int (0 : Int32)), .val (.long q1), .second, .val (.long q2), .second, .val (.ref b3), .val (.int (1 : Int32)), .val (.int (0 : Int32)), .val (.int (0 : Int32))] [(.int (f4_0 q1 q0 q2))]))
          refine own_step (fun t k => XS.iload X8.here hx rfl (hb hby at_143) rfl k) ?_
          show own_Ends p e below s _ _ _ (T8.setTop (mkF m 145 #[.val (.long q0), .second, .val (.long q1), .second, .val (.long q2), .second, .val (.long q3), .second, .val (.long q4), .second, .val (.int p5), .val (.int (0 : Int32)), .val (.int (0 : Int32)), .val (.long q1), .second, .val (.long q2), .second, .val (.ref b3), .val (.int (1 : Int32)), .val (.int (0 : Int32)), .val (.int (0 : Int32))] [(.int (0 : Int32)), (.int (f4_0 q1 q0 q2))]))
          refine own_step (fun t k => XS.icmpNo X8.here hx rfl (hb hby at_145) rfl (teq (show (f4_0 q1 q0 q2) = (0 : Int32) from by simp [f4_0, hc92_5, hc111_6])).2 k) ?_
          show own_Ends p e below s _ _ _ (T8.setTop (mkF m 148 #[.val (.long q0), .second, .val (.long q1), .second, .val (.long q2), .second, .val (.long q3), .second, .val (.long q4), .second, .val (.int p5), .val (.int (0 : Int32)), .val (.int (0 : Int32)), .val (.long q1), .second, .val (.long q2), .second, .val (.ref b3), .val (.int (1 : Int32)), .val (.int (0 : Int32)), .val (.int (0 : Int32))] []))
          refine own_step (fun t k => XS.iconst X8.here hx rfl (hb hby at_148) k) ?_
          show own_Ends p e below s _ _ _ (T8.setTop (mkF m 149 #[.val (.long q0), .second, .val (.long q1), .second, .val (.long q2), .second, .val (.long q3), .second, .val (.long q4), .second, .val (.int p5), .val (.int (0 : Int32)), .val (.int (0 : Int32)), .val (.long q1), .second, .val (.long q2), .second, .val (.ref b3), .val (.int (1 : Int32)), .val (.int (0 : Int32)), .val (.int (0 : Int32))] [(.int (1 : Int32))]))
          refine own_step (fun t k => XS.goto X8.here hx rfl (pc0 := 149) (pc' := 153) rfl (hb hby at_149) (by decide) (by decide) k) ?_
          show own_Ends p e below s _ _ _ (T8.setTop (mkF m 153 #[.val (.long q0), .second, .val (.long q1), .second, .val (.long q2), .second, .val (.long q3), .second, .val (.long q4), .second, .val (.int p5), .val (.int (0 : Int32)), .val (.int (0 : Int32)), .val (.long q1), .second, .val (.long q2), .second, .val (.ref b3), .val (.int (1 : Int32)), .val (.int (0 : Int32)), .val (.int (0 : Int32))] [(.int (1 : Int32))]))
          exact own_retN X8 hx hlk (t := .boolean) hret (by simp) (hb hby at_153) (w := (1 : Int32)) (by decide) ⟨rfl, N8⟩ (by decide) (by decide)
      · -- not q1 = q0
        refine own_step (fun t k => XS.ifYes X4.here hx rfl (pc0 := 92) (pc' := 99) rfl (hb hby at_92) rfl ((if0 _ _).trans (feq (fun q => hc92_5 ((lw_eq q1 q0).mp q))).2) (by decide) (by decide) k) ?_
        show own_Ends p e below s _ _ _ (T4.setTop (mkF m 99 #[.val (.long q0), .second, .val (.long q1), .second, .val (.long q2), .second, .val (.long q3), .second, .val (.long q4), .second, .val (.int p5), .val (.int (0 : Int32)), .val (.int (0 : Int32)), .val (.long q1), .second, .val (.long q2), .second, .val (.ref b3), .unset, .unset, .unset] []))
        refine own_step (fun t k => XS.iconst X4.here hx rfl (hb hby at_99) k) ?_
        show own_Ends p e below s _ _ _ (T4.setTop (mkF m 100 #[.val (.long q0), .second, .val (.long q1), .second, .val (.long q2), .second, .val (.long q3), .second, .val (.long q4), .second, .val (.int p5), .val (.int (0 : Int32)), .val (.int (0 : Int32)), .val (.long q1), .second, .val (.long q2), .second, .val (.ref b3), .unset, .unset, .unset] [(.int (0 : Int32))]))
        refine own_step (fun t k => XS.istore X4.here hx rfl (hb hby at_100) rfl (l' := #[.val (.long q0), .second, .val (.long q1), .second, .val (.long q2), .second, .val (.long q3), .second, .val (.long q4), .second, .val (.int p5), .val (.int (0 : Int32)), .val (.int (0 : Int32)), .val (.long q1), .second, .val (.long q2), .second, .val (.ref b3), .val (.int (0 : Int32)), .unset, .unset]) rfl k) ?_
        show own_Ends p e below s _ _ _ (T4.setTop (mkF m 102 #[.val (.long q0), .second, .val (.long q1), .second, .val (.long q2), .second, .val (.long q3), .second, .val (.long q4), .second, .val (.int p5), .val (.int (0 : Int32)), .val (.int (0 : Int32)), .val (.long q1), .second, .val (.long q2), .second, .val (.ref b3), .val (.int (0 : Int32)), .unset, .unset] []))
        refine own_step (fun t k => XS.iload X4.here hx rfl (hb hby at_102) rfl k) ?_
        show own_Ends p e below s _ _ _ (T4.setTop (mkF m 104 #[.val (.long q0), .second, .val (.long q1), .second, .val (.long q2), .second, .val (.long q3), .second, .val (.long q4), .second, .val (.int p5), .val (.int (0 : Int32)), .val (.int (0 : Int32)), .val (.long q1), .second, .val (.long q2), .second, .val (.ref b3), .val (.int (0 : Int32)), .unset, .unset] [(.int (0 : Int32))]))
        refine own_step (fun t k => XS.ifNo X4.here hx rfl (hb hby at_104) rfl ((if0 _ _).trans (teq (by decide : ((0 : Int32) = (0 : Int32)))).2) k) ?_
        show own_Ends p e below s _ _ _ (T4.setTop (mkF m 107 #[.val (.long q0), .second, .val (.long q1), .second, .val (.long q2), .second, .val (.long q3), .second, .val (.long q4), .second, .val (.int p5), .val (.int (0 : Int32)), .val (.int (0 : Int32)), .val (.long q1), .second, .val (.long q2), .second, .val (.ref b3), .val (.int (0 : Int32)), .unset, .unset] []))
        refine own_step (fun t k => XS.lload X4.here hx rfl (hb hby at_107) rfl k) ?_
        show own_Ends p e below s _ _ _ (T4.setTop (mkF m 109 #[.val (.long q0), .second, .val (.long q1), .second, .val (.long q2), .second, .val (.long q3), .second, .val (.long q4), .second, .val (.int p5), .val (.int (0 : Int32)), .val (.int (0 : Int32)), .val (.long q1), .second, .val (.long q2), .second, .val (.ref b3), .val (.int (0 : Int32)), .unset, .unset] [(.long q2)]))
        refine own_step (fun t k => XS.lconst X4.here hx rfl (hb hby at_109) k) ?_
        show own_Ends p e below s _ _ _ (T4.setTop (mkF m 110 #[.val (.long q0), .second, .val (.long q1), .second, .val (.long q2), .second, .val (.long q3), .second, .val (.long q4), .second, .val (.int p5), .val (.int (0 : Int32)), .val (.int (0 : Int32)), .val (.long q1), .second, .val (.long q2), .second, .val (.ref b3), .val (.int (0 : Int32)), .unset, .unset] [(.long (0 : Int64)), (.long q2)]))
        refine own_step (fun t k => XS.lcmp X4.here hx rfl (hb hby at_110) rfl k) ?_
        show own_Ends p e below s _ _ _ (T4.setTop (mkF m 111 #[.val (.long q0), .second, .val (.long q1), .second, .val (.long q2), .second, .val (.long q3), .second, .val (.long q4), .second, .val (.int p5), .val (.int (0 : Int32)), .val (.int (0 : Int32)), .val (.long q1), .second, .val (.long q2), .second, .val (.ref b3), .val (.int (0 : Int32)), .unset, .unset] [(.int (lcmpW q2 (0 : Int64)))]))
        by_cases hc111_9 : q2 = (0 : Int64)
        · -- q2 = (0 : Int64)
          refine own_step (fun t k => XS.ifNo X4.here hx rfl (hb hby at_111) rfl ((if0 _ _).trans (teq ((lw_eq q2 (0 : Int64)).mpr hc111_9)).2) k) ?_
          show own_Ends p e below s _ _ _ (T4.setTop (mkF m 114 #[.val (.long q0), .second, .val (.long q1), .second, .val (.long q2), .second, .val (.long q3), .second, .val (.long q4), .second, .val (.int p5), .val (.int (0 : Int32)), .val (.int (0 : Int32)), .val (.long q1), .second, .val (.long q2), .second, .val (.ref b3), .val (.int (0 : Int32)), .unset, .unset] []))
          refine own_step (fun t k => XS.iconst X4.here hx rfl (hb hby at_114) k) ?_
          show own_Ends p e below s _ _ _ (T4.setTop (mkF m 115 #[.val (.long q0), .second, .val (.long q1), .second, .val (.long q2), .second, .val (.long q3), .second, .val (.long q4), .second, .val (.int p5), .val (.int (0 : Int32)), .val (.int (0 : Int32)), .val (.long q1), .second, .val (.long q2), .second, .val (.ref b3), .val (.int (0 : Int32)), .unset, .unset] [(.int (1 : Int32))]))
          refine own_step (fun t k => XS.goto X4.here hx rfl (pc0 := 115) (pc' := 119) rfl (hb hby at_115) (by decide) (by decide) k) ?_
          show own_Ends p e below s _ _ _ (T4.setTop (mkF m 119 #[.val (.long q0), .second, .val (.long q1), .second, .val (.long q2), .second, .val (.long q3), .second, .val (.long q4), .second, .val (.int p5), .val (.int (0 : Int32)), .val (.int (0 : Int32)), .val (.long q1), .second, .val (.long q2), .second, .val (.ref b3), .val (.int (0 : Int32)), .unset, .unset] [(.int (1 : Int32))]))
          refine own_step (fun t k => XS.istore X4.here hx rfl (hb hby at_119) rfl (l' := #[.val (.long q0), .second, .val (.long q1), .second, .val (.long q2), .second, .val (.long q3), .second, .val (.long q4), .second, .val (.int p5), .val (.int (0 : Int32)), .val (.int (0 : Int32)), .val (.long q1), .second, .val (.long q2), .second, .val (.ref b3), .val (.int (0 : Int32)), .val (.int (1 : Int32)), .unset]) rfl k) ?_
          show own_Ends p e below s _ _ _ (T4.setTop (mkF m 121 #[.val (.long q0), .second, .val (.long q1), .second, .val (.long q2), .second, .val (.long q3), .second, .val (.long q4), .second, .val (.int p5), .val (.int (0 : Int32)), .val (.int (0 : Int32)), .val (.long q1), .second, .val (.long q2), .second, .val (.ref b3), .val (.int (0 : Int32)), .val (.int (1 : Int32)), .unset] []))
          refine own_step (fun t k => XS.iload X4.here hx rfl (hb hby at_121) rfl k) ?_
          show own_Ends p e below s _ _ _ (T4.setTop (mkF m 123 #[.val (.long q0), .second, .val (.long q1), .second, .val (.long q2), .second, .val (.long q3), .second, .val (.long q4), .second, .val (.int p5), .val (.int (0 : Int32)), .val (.int (0 : Int32)), .val (.long q1), .second, .val (.long q2), .second, .val (.ref b3), .val (.int (0 : Int32)), .val (.int (1 : Int32)), .unset] [(.int (0 : Int32))]))
          refine own_step (fun t k => XS.ifYes X4.here hx rfl (pc0 := 123) (pc' := 135) rfl (hb hby at_123) rfl ((if0 _ _).trans (teq (by decide : ((0 : Int32) = (0 : Int32)))).1) (by decide) (by decide) k) ?_
          show own_Ends p e below s _ _ _ (T4.setTop (mkF m 135 #[.val (.long q0), .second, .val (.long q1), .second, .val (.long q2), .second, .val (.long q3), .second, .val (.long q4), .second, .val (.int p5), .val (.int (0 : Int32)), .val (.int (0 : Int32)), .val (.long q1), .second, .val (.long q2), .second, .val (.ref b3), .val (.int (0 : Int32)), .val (.int (1 : Int32)), .unset] []))
          refine own_step (fun t k => XS.iconst X4.here hx rfl (hb hby at_135) k) ?_
          show own_Ends p e below s _ _ _ (T4.setTop (mkF m 136 #[.val (.long q0), .second, .val (.long q1), .second, .val (.long q2), .second, .val (.long q3), .second, .val (.long q4), .second, .val (.int p5), .val (.int (0 : Int32)), .val (.int (0 : Int32)), .val (.long q1), .second, .val (.long q2), .second, .val (.ref b3), .val (.int (0 : Int32)), .val (.int (1 : Int32)), .unset] [(.int (0 : Int32))]))
          refine own_step (fun t k => XS.istore X4.here hx rfl (hb hby at_136) rfl (l' := #[.val (.long q0), .second, .val (.long q1), .second, .val (.long q2), .second, .val (.long q3), .second, .val (.long q4), .second, .val (.int p5), .val (.int (0 : Int32)), .val (.int (0 : Int32)), .val (.long q1), .second, .val (.long q2), .second, .val (.ref b3), .val (.int (0 : Int32)), .val (.int (1 : Int32)), .val (.int (0 : Int32))]) rfl k) ?_
          show own_Ends p e below s _ _ _ (T4.setTop (mkF m 138 #[.val (.long q0), .second, .val (.long q1), .second, .val (.long q2), .second, .val (.long q3), .second, .val (.long q4), .second, .val (.int p5), .val (.int (0 : Int32)), .val (.int (0 : Int32)), .val (.long q1), .second, .val (.long q2), .second, .val (.ref b3), .val (.int (0 : Int32)), .val (.int (1 : Int32)), .val (.int (0 : Int32))] []))
          refine own_step (fun t k => XS.aload X4.here hx rfl (hb hby at_138) rfl rfl k) ?_
          show own_Ends p e below s _ _ _ (T4.setTop (mkF m 140 #[.val (.long q0), .second, .val (.long q1), .second, .val (.long q2), .second, .val (.long q3), .second, .val (.long q4), .second, .val (.int p5), .val (.int (0 : Int32)), .val (.int (0 : Int32)), .val (.long q1), .second, .val (.long q2), .second, .val (.ref b3), .val (.int (0 : Int32)), .val (.int (1 : Int32)), .val (.int (0 : Int32))] [(.ref b3)]))
          obtain ⟨cq10, kq10, q10a, q10b, q10c⟩ := isOf hZ rfl E4_0
          obtain ⟨_, _, ⟨T10, L10, k10, n10⟩, -, X10, ⟨Lc10, hQ10, l10, y10, z10⟩, st10⟩ := X4.virtualBack hx (y := (⟨"com/example/hop_mutex/hopmutex/command/Simulation$Figures", "succeeded", "()Z"⟩ : MethodName)) (z := (⟨"com/example/hop_mutex/hopmutex/command/Simulation$Figures", "succeeded", "()Z"⟩ : MethodName)) hown (mvT hZ (hw _ (List.mem_of_getElem? (i := 30) rfl))) (mvT hZ (hw _ (List.mem_of_getElem? (i := 31) rfl))) (notFace_of_selects (args := #[]) (mvT hZ (hw _ (List.mem_of_getElem? (i := 33) rfl)))) (mvT hZ (hw _ (List.mem_of_getElem? (i := 33) rfl))) (mvT hZ (hw _ (List.mem_of_getElem? (i := 32) rfl))) (by decide) (backOf (W := 0) (rm4 l Z a0 hw [] b3 q1 q0 q2 T4.heap n0 F4_completed F4_entries F4_overlaps ) hZ (hw _ (List.mem_of_getElem? (i := 34) rfl)) (hw _ (List.mem_of_getElem? (i := 2) rfl)) (by decide) (by decide)) q10a q10c (g := (mkF m 140 #[.val (.long q0), .second, .val (.long q1), .second, .val (.long q2), .second, .val (.long q3), .second, .val (.long q4), .second, .val (.int p5), .val (.int (0 : Int32)), .val (.int (0 : Int32)), .val (.long q1), .second, .val (.long q2), .second, .val (.ref b3), .val (.int (0 : Int32)), .val (.int (1 : Int32)), .val (.int (0 : Int32))] [(.ref b3)])) rfl (by rw [hml]; rfl) (Steps.refl _) (argsL := []) (rest := []) (lenOf pd0_1 rfl) rfl (by show 2 * 0 + _ ≤ _; exact Nat.le_of_eq rfl) (hb hby at_140) (fun _ _ => ⟨rfl, rfl, (by decide : 1 + 0 ≤ _), (by decide : 8 + 0 ≤ _)⟩)
          dsimp only [Pt.U, Pt.locs, Pt.cells, Pt.slots] at X10 l10 y10 z10 st10 hQ10
          subst l10 y10 z10
          obtain ⟨rfl, N10q, e10⟩ := hQ10
          have N10 := Fr.app N4 N10q
          refine own_step (fun t k => st10.trans k) ?_
          show own_Ends p e below s _ _ _ (T10.setTop (mkF m 143 #[.val (.long q0), .second, .val (.long q1), .second, .val (.long q2), .second, .val (.long q3), .second, .val (.long q4), .second, .val (.int p5), .val (.int (0 : Int32)), .val (.int (0 : Int32)), .val (.long q1), .second, .val (.long q2), .second, .val (.ref b3), .val (.int (0 : Int32)), .val (.int (1 : Int32)), .val (.int (0 : Int32))] [(.int (f4_0 q1 q0 q2))]))
          refine own_step (fun t k => XS.iload X10.here hx rfl (hb hby at_143) rfl k) ?_
          show own_Ends p e below s _ _ _ (T10.setTop (mkF m 145 #[.val (.long q0), .second, .val (.long q1), .second, .val (.long q2), .second, .val (.long q3), .second, .val (.long q4), .second, .val (.int p5), .val (.int (0 : Int32)), .val (.int (0 : Int32)), .val (.long q1), .second, .val (.long q2), .second, .val (.ref b3), .val (.int (0 : Int32)), .val (.int (1 : Int32)), .val (.int (0 : Int32))] [(.int (0 : Int32)), (.int (f4_0 q1 q0 q2))]))
          refine own_step (fun t k => XS.icmpNo X10.here hx rfl (hb hby at_145) rfl (teq (show (f4_0 q1 q0 q2) = (0 : Int32) from by simp [f4_0, hc92_5, hc111_9])).2 k) ?_
          show own_Ends p e below s _ _ _ (T10.setTop (mkF m 148 #[.val (.long q0), .second, .val (.long q1), .second, .val (.long q2), .second, .val (.long q3), .second, .val (.long q4), .second, .val (.int p5), .val (.int (0 : Int32)), .val (.int (0 : Int32)), .val (.long q1), .second, .val (.long q2), .second, .val (.ref b3), .val (.int (0 : Int32)), .val (.int (1 : Int32)), .val (.int (0 : Int32))] []))
          refine own_step (fun t k => XS.iconst X10.here hx rfl (hb hby at_148) k) ?_
          show own_Ends p e below s _ _ _ (T10.setTop (mkF m 149 #[.val (.long q0), .second, .val (.long q1), .second, .val (.long q2), .second, .val (.long q3), .second, .val (.long q4), .second, .val (.int p5), .val (.int (0 : Int32)), .val (.int (0 : Int32)), .val (.long q1), .second, .val (.long q2), .second, .val (.ref b3), .val (.int (0 : Int32)), .val (.int (1 : Int32)), .val (.int (0 : Int32))] [(.int (1 : Int32))]))
          refine own_step (fun t k => XS.goto X10.here hx rfl (pc0 := 149) (pc' := 153) rfl (hb hby at_149) (by decide) (by decide) k) ?_
          show own_Ends p e below s _ _ _ (T10.setTop (mkF m 153 #[.val (.long q0), .second, .val (.long q1), .second, .val (.long q2), .second, .val (.long q3), .second, .val (.long q4), .second, .val (.int p5), .val (.int (0 : Int32)), .val (.int (0 : Int32)), .val (.long q1), .second, .val (.long q2), .second, .val (.ref b3), .val (.int (0 : Int32)), .val (.int (1 : Int32)), .val (.int (0 : Int32))] [(.int (1 : Int32))]))
          exact own_retN X10 hx hlk (t := .boolean) hret (by simp) (hb hby at_153) (w := (1 : Int32)) (by decide) ⟨rfl, N10⟩ (by decide) (by decide)
        · -- not q2 = (0 : Int64)
          refine own_step (fun t k => XS.ifYes X4.here hx rfl (pc0 := 111) (pc' := 118) rfl (hb hby at_111) rfl ((if0 _ _).trans (feq (fun q => hc111_9 ((lw_eq q2 (0 : Int64)).mp q))).2) (by decide) (by decide) k) ?_
          show own_Ends p e below s _ _ _ (T4.setTop (mkF m 118 #[.val (.long q0), .second, .val (.long q1), .second, .val (.long q2), .second, .val (.long q3), .second, .val (.long q4), .second, .val (.int p5), .val (.int (0 : Int32)), .val (.int (0 : Int32)), .val (.long q1), .second, .val (.long q2), .second, .val (.ref b3), .val (.int (0 : Int32)), .unset, .unset] []))
          refine own_step (fun t k => XS.iconst X4.here hx rfl (hb hby at_118) k) ?_
          show own_Ends p e below s _ _ _ (T4.setTop (mkF m 119 #[.val (.long q0), .second, .val (.long q1), .second, .val (.long q2), .second, .val (.long q3), .second, .val (.long q4), .second, .val (.int p5), .val (.int (0 : Int32)), .val (.int (0 : Int32)), .val (.long q1), .second, .val (.long q2), .second, .val (.ref b3), .val (.int (0 : Int32)), .unset, .unset] [(.int (0 : Int32))]))
          refine own_step (fun t k => XS.istore X4.here hx rfl (hb hby at_119) rfl (l' := #[.val (.long q0), .second, .val (.long q1), .second, .val (.long q2), .second, .val (.long q3), .second, .val (.long q4), .second, .val (.int p5), .val (.int (0 : Int32)), .val (.int (0 : Int32)), .val (.long q1), .second, .val (.long q2), .second, .val (.ref b3), .val (.int (0 : Int32)), .val (.int (0 : Int32)), .unset]) rfl k) ?_
          show own_Ends p e below s _ _ _ (T4.setTop (mkF m 121 #[.val (.long q0), .second, .val (.long q1), .second, .val (.long q2), .second, .val (.long q3), .second, .val (.long q4), .second, .val (.int p5), .val (.int (0 : Int32)), .val (.int (0 : Int32)), .val (.long q1), .second, .val (.long q2), .second, .val (.ref b3), .val (.int (0 : Int32)), .val (.int (0 : Int32)), .unset] []))
          refine own_step (fun t k => XS.iload X4.here hx rfl (hb hby at_121) rfl k) ?_
          show own_Ends p e below s _ _ _ (T4.setTop (mkF m 123 #[.val (.long q0), .second, .val (.long q1), .second, .val (.long q2), .second, .val (.long q3), .second, .val (.long q4), .second, .val (.int p5), .val (.int (0 : Int32)), .val (.int (0 : Int32)), .val (.long q1), .second, .val (.long q2), .second, .val (.ref b3), .val (.int (0 : Int32)), .val (.int (0 : Int32)), .unset] [(.int (0 : Int32))]))
          refine own_step (fun t k => XS.ifYes X4.here hx rfl (pc0 := 123) (pc' := 135) rfl (hb hby at_123) rfl ((if0 _ _).trans (teq (by decide : ((0 : Int32) = (0 : Int32)))).1) (by decide) (by decide) k) ?_
          show own_Ends p e below s _ _ _ (T4.setTop (mkF m 135 #[.val (.long q0), .second, .val (.long q1), .second, .val (.long q2), .second, .val (.long q3), .second, .val (.long q4), .second, .val (.int p5), .val (.int (0 : Int32)), .val (.int (0 : Int32)), .val (.long q1), .second, .val (.long q2), .second, .val (.ref b3), .val (.int (0 : Int32)), .val (.int (0 : Int32)), .unset] []))
          refine own_step (fun t k => XS.iconst X4.here hx rfl (hb hby at_135) k) ?_
          show own_Ends p e below s _ _ _ (T4.setTop (mkF m 136 #[.val (.long q0), .second, .val (.long q1), .second, .val (.long q2), .second, .val (.long q3), .second, .val (.long q4), .second, .val (.int p5), .val (.int (0 : Int32)), .val (.int (0 : Int32)), .val (.long q1), .second, .val (.long q2), .second, .val (.ref b3), .val (.int (0 : Int32)), .val (.int (0 : Int32)), .unset] [(.int (0 : Int32))]))
          refine own_step (fun t k => XS.istore X4.here hx rfl (hb hby at_136) rfl (l' := #[.val (.long q0), .second, .val (.long q1), .second, .val (.long q2), .second, .val (.long q3), .second, .val (.long q4), .second, .val (.int p5), .val (.int (0 : Int32)), .val (.int (0 : Int32)), .val (.long q1), .second, .val (.long q2), .second, .val (.ref b3), .val (.int (0 : Int32)), .val (.int (0 : Int32)), .val (.int (0 : Int32))]) rfl k) ?_
          show own_Ends p e below s _ _ _ (T4.setTop (mkF m 138 #[.val (.long q0), .second, .val (.long q1), .second, .val (.long q2), .second, .val (.long q3), .second, .val (.long q4), .second, .val (.int p5), .val (.int (0 : Int32)), .val (.int (0 : Int32)), .val (.long q1), .second, .val (.long q2), .second, .val (.ref b3), .val (.int (0 : Int32)), .val (.int (0 : Int32)), .val (.int (0 : Int32))] []))
          refine own_step (fun t k => XS.aload X4.here hx rfl (hb hby at_138) rfl rfl k) ?_
          show own_Ends p e below s _ _ _ (T4.setTop (mkF m 140 #[.val (.long q0), .second, .val (.long q1), .second, .val (.long q2), .second, .val (.long q3), .second, .val (.long q4), .second, .val (.int p5), .val (.int (0 : Int32)), .val (.int (0 : Int32)), .val (.long q1), .second, .val (.long q2), .second, .val (.ref b3), .val (.int (0 : Int32)), .val (.int (0 : Int32)), .val (.int (0 : Int32))] [(.ref b3)]))
          obtain ⟨cq11, kq11, q11a, q11b, q11c⟩ := isOf hZ rfl E4_0
          obtain ⟨_, _, ⟨T11, L11, k11, n11⟩, -, X11, ⟨Lc11, hQ11, l11, y11, z11⟩, st11⟩ := X4.virtualBack hx (y := (⟨"com/example/hop_mutex/hopmutex/command/Simulation$Figures", "succeeded", "()Z"⟩ : MethodName)) (z := (⟨"com/example/hop_mutex/hopmutex/command/Simulation$Figures", "succeeded", "()Z"⟩ : MethodName)) hown (mvT hZ (hw _ (List.mem_of_getElem? (i := 30) rfl))) (mvT hZ (hw _ (List.mem_of_getElem? (i := 31) rfl))) (notFace_of_selects (args := #[]) (mvT hZ (hw _ (List.mem_of_getElem? (i := 33) rfl)))) (mvT hZ (hw _ (List.mem_of_getElem? (i := 33) rfl))) (mvT hZ (hw _ (List.mem_of_getElem? (i := 32) rfl))) (by decide) (backOf (W := 0) (rm4 l Z a0 hw [] b3 q1 q0 q2 T4.heap n0 F4_completed F4_entries F4_overlaps ) hZ (hw _ (List.mem_of_getElem? (i := 34) rfl)) (hw _ (List.mem_of_getElem? (i := 2) rfl)) (by decide) (by decide)) q11a q11c (g := (mkF m 140 #[.val (.long q0), .second, .val (.long q1), .second, .val (.long q2), .second, .val (.long q3), .second, .val (.long q4), .second, .val (.int p5), .val (.int (0 : Int32)), .val (.int (0 : Int32)), .val (.long q1), .second, .val (.long q2), .second, .val (.ref b3), .val (.int (0 : Int32)), .val (.int (0 : Int32)), .val (.int (0 : Int32))] [(.ref b3)])) rfl (by rw [hml]; rfl) (Steps.refl _) (argsL := []) (rest := []) (lenOf pd0_1 rfl) rfl (by show 2 * 0 + _ ≤ _; exact Nat.le_of_eq rfl) (hb hby at_140) (fun _ _ => ⟨rfl, rfl, (by decide : 1 + 0 ≤ _), (by decide : 8 + 0 ≤ _)⟩)
          dsimp only [Pt.U, Pt.locs, Pt.cells, Pt.slots] at X11 l11 y11 z11 st11 hQ11
          subst l11 y11 z11
          obtain ⟨rfl, N11q, e11⟩ := hQ11
          have N11 := Fr.app N4 N11q
          refine own_step (fun t k => st11.trans k) ?_
          show own_Ends p e below s _ _ _ (T11.setTop (mkF m 143 #[.val (.long q0), .second, .val (.long q1), .second, .val (.long q2), .second, .val (.long q3), .second, .val (.long q4), .second, .val (.int p5), .val (.int (0 : Int32)), .val (.int (0 : Int32)), .val (.long q1), .second, .val (.long q2), .second, .val (.ref b3), .val (.int (0 : Int32)), .val (.int (0 : Int32)), .val (.int (0 : Int32))] [(.int (f4_0 q1 q0 q2))]))
          refine own_step (fun t k => XS.iload X11.here hx rfl (hb hby at_143) rfl k) ?_
          show own_Ends p e below s _ _ _ (T11.setTop (mkF m 145 #[.val (.long q0), .second, .val (.long q1), .second, .val (.long q2), .second, .val (.long q3), .second, .val (.long q4), .second, .val (.int p5), .val (.int (0 : Int32)), .val (.int (0 : Int32)), .val (.long q1), .second, .val (.long q2), .second, .val (.ref b3), .val (.int (0 : Int32)), .val (.int (0 : Int32)), .val (.int (0 : Int32))] [(.int (0 : Int32)), (.int (f4_0 q1 q0 q2))]))
          refine own_step (fun t k => XS.icmpNo X11.here hx rfl (hb hby at_145) rfl (teq (show (f4_0 q1 q0 q2) = (0 : Int32) from by simp [f4_0, hc92_5, hc111_9])).2 k) ?_
          show own_Ends p e below s _ _ _ (T11.setTop (mkF m 148 #[.val (.long q0), .second, .val (.long q1), .second, .val (.long q2), .second, .val (.long q3), .second, .val (.long q4), .second, .val (.int p5), .val (.int (0 : Int32)), .val (.int (0 : Int32)), .val (.long q1), .second, .val (.long q2), .second, .val (.ref b3), .val (.int (0 : Int32)), .val (.int (0 : Int32)), .val (.int (0 : Int32))] []))
          refine own_step (fun t k => XS.iconst X11.here hx rfl (hb hby at_148) k) ?_
          show own_Ends p e below s _ _ _ (T11.setTop (mkF m 149 #[.val (.long q0), .second, .val (.long q1), .second, .val (.long q2), .second, .val (.long q3), .second, .val (.long q4), .second, .val (.int p5), .val (.int (0 : Int32)), .val (.int (0 : Int32)), .val (.long q1), .second, .val (.long q2), .second, .val (.ref b3), .val (.int (0 : Int32)), .val (.int (0 : Int32)), .val (.int (0 : Int32))] [(.int (1 : Int32))]))
          refine own_step (fun t k => XS.goto X11.here hx rfl (pc0 := 149) (pc' := 153) rfl (hb hby at_149) (by decide) (by decide) k) ?_
          show own_Ends p e below s _ _ _ (T11.setTop (mkF m 153 #[.val (.long q0), .second, .val (.long q1), .second, .val (.long q2), .second, .val (.long q3), .second, .val (.long q4), .second, .val (.int p5), .val (.int (0 : Int32)), .val (.int (0 : Int32)), .val (.long q1), .second, .val (.long q2), .second, .val (.ref b3), .val (.int (0 : Int32)), .val (.int (0 : Int32)), .val (.int (0 : Int32))] [(.int (1 : Int32))]))
          exact own_retN X11 hx hlk (t := .boolean) hret (by simp) (hb hby at_153) (w := (1 : Int32)) (by decide) ⟨rfl, N11⟩ (by decide) (by decide)
    · -- not (p5 &&& (2 : Int32)) = (0 : Int32)
      refine own_step (fun t k => XS.ifNo X0.here hx rfl (hb hby at_18) rfl ((if0 _ _).trans (feq hc18_2).1) k) ?_
      show own_Ends p e below s _ _ _ (s₁.setTop (mkF m 21 #[.val (.long q0), .second, .val (.long q1), .second, .val (.long q2), .second, .val (.long q3), .second, .val (.long q4), .second, .val (.int p5), .val (.int (0 : Int32)), .unset, .unset, .unset, .unset, .unset, .unset, .unset, .unset, .unset] []))
      refine own_step (fun t k => XS.iconst X0.here hx rfl (hb hby at_21) k) ?_
      show own_Ends p e below s _ _ _ (s₁.setTop (mkF m 22 #[.val (.long q0), .second, .val (.long q1), .second, .val (.long q2), .second, .val (.long q3), .second, .val (.long q4), .second, .val (.int p5), .val (.int (0 : Int32)), .unset, .unset, .unset, .unset, .unset, .unset, .unset, .unset, .unset] [(.int (1 : Int32))]))
      refine own_step (fun t k => XS.goto X0.here hx rfl (pc0 := 22) (pc' := 26) rfl (hb hby at_22) (by decide) (by decide) k) ?_
      show own_Ends p e below s _ _ _ (s₁.setTop (mkF m 26 #[.val (.long q0), .second, .val (.long q1), .second, .val (.long q2), .second, .val (.long q3), .second, .val (.long q4), .second, .val (.int p5), .val (.int (0 : Int32)), .unset, .unset, .unset, .unset, .unset, .unset, .unset, .unset, .unset] [(.int (1 : Int32))]))
      refine own_step (fun t k => XS.istore X0.here hx rfl (hb hby at_26) rfl (l' := #[.val (.long q0), .second, .val (.long q1), .second, .val (.long q2), .second, .val (.long q3), .second, .val (.long q4), .second, .val (.int p5), .val (.int (0 : Int32)), .val (.int (1 : Int32)), .unset, .unset, .unset, .unset, .unset, .unset, .unset, .unset]) rfl k) ?_
      show own_Ends p e below s _ _ _ (s₁.setTop (mkF m 28 #[.val (.long q0), .second, .val (.long q1), .second, .val (.long q2), .second, .val (.long q3), .second, .val (.long q4), .second, .val (.int p5), .val (.int (0 : Int32)), .val (.int (1 : Int32)), .unset, .unset, .unset, .unset, .unset, .unset, .unset, .unset] []))
      refine own_step (fun t k => XS.iload X0.here hx rfl (hb hby at_28) rfl k) ?_
      show own_Ends p e below s _ _ _ (s₁.setTop (mkF m 30 #[.val (.long q0), .second, .val (.long q1), .second, .val (.long q2), .second, .val (.long q3), .second, .val (.long q4), .second, .val (.int p5), .val (.int (0 : Int32)), .val (.int (1 : Int32)), .unset, .unset, .unset, .unset, .unset, .unset, .unset, .unset] [(.int (0 : Int32))]))
      refine own_step (fun t k => XS.ifYes X0.here hx rfl (pc0 := 30) (pc' := 37) rfl (hb hby at_30) rfl ((if0 _ _).trans (teq (by decide : ((0 : Int32) = (0 : Int32)))).1) (by decide) (by decide) k) ?_
      show own_Ends p e below s _ _ _ (s₁.setTop (mkF m 37 #[.val (.long q0), .second, .val (.long q1), .second, .val (.long q2), .second, .val (.long q3), .second, .val (.long q4), .second, .val (.int p5), .val (.int (0 : Int32)), .val (.int (1 : Int32)), .unset, .unset, .unset, .unset, .unset, .unset, .unset, .unset] []))
      refine own_step (fun t k => XS.lloadN X0.here hx rfl (hb hby at_37) rfl k) ?_
      show own_Ends p e below s _ _ _ (s₁.setTop (mkF m 38 #[.val (.long q0), .second, .val (.long q1), .second, .val (.long q2), .second, .val (.long q3), .second, .val (.long q4), .second, .val (.int p5), .val (.int (0 : Int32)), .val (.int (1 : Int32)), .unset, .unset, .unset, .unset, .unset, .unset, .unset, .unset] [(.long q1)]))
      refine own_step (fun t k => XS.lstore X0.here hx rfl (hb hby at_38) rfl (l' := #[.val (.long q0), .second, .val (.long q1), .second, .val (.long q2), .second, .val (.long q3), .second, .val (.long q4), .second, .val (.int p5), .val (.int (0 : Int32)), .val (.int (1 : Int32)), .val (.long q1), .second, .unset, .unset, .unset, .unset, .unset, .unset]) rfl k) ?_
      show own_Ends p e below s _ _ _ (s₁.setTop (mkF m 40 #[.val (.long q0), .second, .val (.long q1), .second, .val (.long q2), .second, .val (.long q3), .second, .val (.long q4), .second, .val (.int p5), .val (.int (0 : Int32)), .val (.int (1 : Int32)), .val (.long q1), .second, .unset, .unset, .unset, .unset, .unset, .unset] []))
      refine own_step (fun t k => XS.iload X0.here hx rfl (hb hby at_40) rfl k) ?_
      show own_Ends p e below s _ _ _ (s₁.setTop (mkF m 42 #[.val (.long q0), .second, .val (.long q1), .second, .val (.long q2), .second, .val (.long q3), .second, .val (.long q4), .second, .val (.int p5), .val (.int (0 : Int32)), .val (.int (1 : Int32)), .val (.long q1), .second, .unset, .unset, .unset, .unset, .unset, .unset] [(.int (1 : Int32))]))
      refine own_step (fun t k => XS.ifNo X0.here hx rfl (hb hby at_42) rfl ((if0 _ _).trans (feq (by decide : ¬ ((1 : Int32) = (0 : Int32)))).1) k) ?_
      show own_Ends p e below s _ _ _ (s₁.setTop (mkF m 45 #[.val (.long q0), .second, .val (.long q1), .second, .val (.long q2), .second, .val (.long q3), .second, .val (.long q4), .second, .val (.int p5), .val (.int (0 : Int32)), .val (.int (1 : Int32)), .val (.long q1), .second, .unset, .unset, .unset, .unset, .unset, .unset] []))
      refine own_step (fun t k => XS.lconst X0.here hx rfl (hb hby at_45) k) ?_
      show own_Ends p e below s _ _ _ (s₁.setTop (mkF m 46 #[.val (.long q0), .second, .val (.long q1), .second, .val (.long q2), .second, .val (.long q3), .second, .val (.long q4), .second, .val (.int p5), .val (.int (0 : Int32)), .val (.int (1 : Int32)), .val (.long q1), .second, .unset, .unset, .unset, .unset, .unset, .unset] [(.long (0 : Int64))]))
      refine own_step (fun t k => XS.goto X0.here hx rfl (pc0 := 46) (pc' := 51) rfl (hb hby at_46) (by decide) (by decide) k) ?_
      show own_Ends p e below s _ _ _ (s₁.setTop (mkF m 51 #[.val (.long q0), .second, .val (.long q1), .second, .val (.long q2), .second, .val (.long q3), .second, .val (.long q4), .second, .val (.int p5), .val (.int (0 : Int32)), .val (.int (1 : Int32)), .val (.long q1), .second, .unset, .unset, .unset, .unset, .unset, .unset] [(.long (0 : Int64))]))
      refine own_step (fun t k => XS.lstore X0.here hx rfl (hb hby at_51) rfl (l' := #[.val (.long q0), .second, .val (.long q1), .second, .val (.long q2), .second, .val (.long q3), .second, .val (.long q4), .second, .val (.int p5), .val (.int (0 : Int32)), .val (.int (1 : Int32)), .val (.long q1), .second, .val (.long (0 : Int64)), .second, .unset, .unset, .unset, .unset]) rfl k) ?_
      show own_Ends p e below s _ _ _ (s₁.setTop (mkF m 53 #[.val (.long q0), .second, .val (.long q1), .second, .val (.long q2), .second, .val (.long q3), .second, .val (.long q4), .second, .val (.int p5), .val (.int (0 : Int32)), .val (.int (1 : Int32)), .val (.long q1), .second, .val (.long (0 : Int64)), .second, .unset, .unset, .unset, .unset] []))
      obtain ⟨T12, h12, X12, e12, E12, A12, D12, -, st12⟩ := newO X0 hx hZ hown (hw _ (List.mem_of_getElem? (i := 0) rfl)) (hw _ (List.mem_of_getElem? (i := 1) rfl)) (hw _ (List.mem_of_getElem? (i := 2) rfl)) e0 (g := (mkF m 53 #[.val (.long q0), .second, .val (.long q1), .second, .val (.long q2), .second, .val (.long q3), .second, .val (.long q4), .second, .val (.int p5), .val (.int (0 : Int32)), .val (.int (1 : Int32)), .val (.long q1), .second, .val (.long (0 : Int64)), .second, .unset, .unset, .unset, .unset] [])) rfl (hb hby at_53) (by decide) (by decide)
      obtain ⟨b12, g12⟩ : ∃ z, z = h0.size := ⟨_, rfl⟩
      rw [← g12] at A12 D12 st12
      have gn_b12 : n0 ≤ b12 := Nat.le_trans Z0 (Nat.le_of_eq g12.symm)
      have Z12 : n0 ≤ h12.size := Nat.le_trans Z0 E12.1
      have F12_entries : Fld Z h12 b12 "com/example/hop_mutex/hopmutex/command/Simulation$Figures" "entries" "J" (.long (0 : Int64)) := D12 (Or.inr (hw _ (List.mem_of_getElem? (i := 15) rfl))) (ty := .long) (by decide)
      have F12_completed : Fld Z h12 b12 "com/example/hop_mutex/hopmutex/command/Simulation$Figures" "completed" "J" (.long (0 : Int64)) := D12 (Or.inr (hw _ (List.mem_of_getElem? (i := 17) rfl))) (ty := .long) (by decide)
      have F12_messages : Fld Z h12 b12 "com/example/hop_mutex/hopmutex/command/Simulation$Figures" "messages" "J" (.long (0 : Int64)) := D12 (Or.inr (hw _ (List.mem_of_getElem? (i := 19) rfl))) (ty := .long) (by decide)
      have F12_entryDelayMax : Fld Z h12 b12 "com/example/hop_mutex/hopmutex/command/Simulation$Figures" "entryDelayMax" "J" (.long (0 : Int64)) := D12 (Or.inr (hw _ (List.mem_of_getElem? (i := 21) rfl))) (ty := .long) (by decide)
      have F12_syncDelays : Fld Z h12 b12 "com/example/hop_mutex/hopmutex/command/Simulation$Figures" "syncDelays" "J" (.long (0 : Int64)) := D12 (Or.inr (hw _ (List.mem_of_getElem? (i := 23) rfl))) (ty := .long) (by decide)
      have F12_syncDelayMax : Fld Z h12 b12 "com/example/hop_mutex/hopmutex/command/Simulation$Figures" "syncDelayMax" "J" (.long (0 : Int64)) := D12 (Or.inr (hw _ (List.mem_of_getElem? (i := 25) rfl))) (ty := .long) (by decide)
      have F12_syncDelayTotal : Fld Z h12 b12 "com/example/hop_mutex/hopmutex/command/Simulation$Figures" "syncDelayTotal" "J" (.long (0 : Int64)) := D12 (Or.inr (hw _ (List.mem_of_getElem? (i := 27) rfl))) (ty := .long) (by decide)
      have F12_overlaps : Fld Z h12 b12 "com/example/hop_mutex/hopmutex/command/Simulation$Figures" "overlaps" "J" (.long (0 : Int64)) := D12 (Or.inr (hw _ (List.mem_of_getElem? (i := 29) rfl))) (ty := .long) (by decide)
      refine own_step st12 ?_
      show own_Ends p e below s _ _ _ (T12.setTop (mkF m 56 #[.val (.long q0), .second, .val (.long q1), .second, .val (.long q2), .second, .val (.long q3), .second, .val (.long q4), .second, .val (.int p5), .val (.int (0 : Int32)), .val (.int (1 : Int32)), .val (.long q1), .second, .val (.long (0 : Int64)), .second, .unset, .unset, .unset, .unset] [(.ref b12)]))
      refine own_step (fun t k => XS.dup X12.here hx rfl (hb hby at_56) rfl rfl k) ?_
      show own_Ends p e below s _ _ _ (T12.setTop (mkF m 57 #[.val (.long q0), .second, .val (.long q1), .second, .val (.long q2), .second, .val (.long q3), .second, .val (.long q4), .second, .val (.int p5), .val (.int (0 : Int32)), .val (.int (1 : Int32)), .val (.long q1), .second, .val (.long (0 : Int64)), .second, .unset, .unset, .unset, .unset] [(.ref b12), (.ref b12)]))
      refine own_step (fun t k => XS.lloadN X12.here hx rfl (hb hby at_57) rfl k) ?_
      show own_Ends p e below s _ _ _ (T12.setTop (mkF m 58 #[.val (.long q0), .second, .val (.long q1), .second, .val (.long q2), .second, .val (.long q3), .second, .val (.long q4), .second, .val (.int p5), .val (.int (0 : Int32)), .val (.int (1 : Int32)), .val (.long q1), .second, .val (.long (0 : Int64)), .second, .unset, .unset, .unset, .unset] [(.long q0), (.ref b12), (.ref b12)]))
      refine own_step (fun t k => XS.lload X12.here hx rfl (hb hby at_58) rfl k) ?_
      show own_Ends p e below s _ _ _ (T12.setTop (mkF m 60 #[.val (.long q0), .second, .val (.long q1), .second, .val (.long q2), .second, .val (.long q3), .second, .val (.long q4), .second, .val (.int p5), .val (.int (0 : Int32)), .val (.int (1 : Int32)), .val (.long q1), .second, .val (.long (0 : Int64)), .second, .unset, .unset, .unset, .unset] [(.long q1), (.long q0), (.ref b12), (.ref b12)]))
      refine own_step (fun t k => XS.lload X12.here hx rfl (hb hby at_60) rfl k) ?_
      show own_Ends p e below s _ _ _ (T12.setTop (mkF m 62 #[.val (.long q0), .second, .val (.long q1), .second, .val (.long q2), .second, .val (.long q3), .second, .val (.long q4), .second, .val (.int p5), .val (.int (0 : Int32)), .val (.int (1 : Int32)), .val (.long q1), .second, .val (.long (0 : Int64)), .second, .unset, .unset, .unset, .unset] [(.long q3), (.long q1), (.long q0), (.ref b12), (.ref b12)]))
      refine own_step (fun t k => XS.lload X12.here hx rfl (hb hby at_62) rfl k) ?_
      show own_Ends p e below s _ _ _ (T12.setTop (mkF m 64 #[.val (.long q0), .second, .val (.long q1), .second, .val (.long q2), .second, .val (.long q3), .second, .val (.long q4), .second, .val (.int p5), .val (.int (0 : Int32)), .val (.int (1 : Int32)), .val (.long q1), .second, .val (.long (0 : Int64)), .second, .unset, .unset, .unset, .unset] [(.long q4), (.long q3), (.long q1), (.long q0), (.ref b12), (.ref b12)]))
      refine own_step (fun t k => XS.lload X12.here hx rfl (hb hby at_64) rfl k) ?_
      show own_Ends p e below s _ _ _ (T12.setTop (mkF m 66 #[.val (.long q0), .second, .val (.long q1), .second, .val (.long q2), .second, .val (.long q3), .second, .val (.long q4), .second, .val (.int p5), .val (.int (0 : Int32)), .val (.int (1 : Int32)), .val (.long q1), .second, .val (.long (0 : Int64)), .second, .unset, .unset, .unset, .unset] [(.long q3), (.long q4), (.long q3), (.long q1), (.long q0), (.ref b12), (.ref b12)]))
      refine own_step (fun t k => XS.lload X12.here hx rfl (hb hby at_66) rfl k) ?_
      show own_Ends p e below s _ _ _ (T12.setTop (mkF m 68 #[.val (.long q0), .second, .val (.long q1), .second, .val (.long q2), .second, .val (.long q3), .second, .val (.long q4), .second, .val (.int p5), .val (.int (0 : Int32)), .val (.int (1 : Int32)), .val (.long q1), .second, .val (.long (0 : Int64)), .second, .unset, .unset, .unset, .unset] [(.long q4), (.long q3), (.long q4), (.long q3), (.long q1), (.long q0), (.ref b12), (.ref b12)]))
      refine own_step (fun t k => XS.lxor X12.here hx rfl (hb hby at_68) rfl k) ?_
      show own_Ends p e below s _ _ _ (T12.setTop (mkF m 69 #[.val (.long q0), .second, .val (.long q1), .second, .val (.long q2), .second, .val (.long q3), .second, .val (.long q4), .second, .val (.int p5), .val (.int (0 : Int32)), .val (.int (1 : Int32)), .val (.long q1), .second, .val (.long (0 : Int64)), .second, .unset, .unset, .unset, .unset] [(.long (q3 ^^^ q4)), (.long q4), (.long q3), (.long q1), (.long q0), (.ref b12), (.ref b12)]))
      refine own_step (fun t k => XS.iload X12.here hx rfl (hb hby at_69) rfl k) ?_
      show own_Ends p e below s _ _ _ (T12.setTop (mkF m 71 #[.val (.long q0), .second, .val (.long q1), .second, .val (.long q2), .second, .val (.long q3), .second, .val (.long q4), .second, .val (.int p5), .val (.int (0 : Int32)), .val (.int (1 : Int32)), .val (.long q1), .second, .val (.long (0 : Int64)), .second, .unset, .unset, .unset, .unset] [(.int p5), (.long (q3 ^^^ q4)), (.long q4), (.long q3), (.long q1), (.long q0), (.ref b12), (.ref b12)]))
      refine own_step (fun t k => XS.i2l X12.here hx rfl (hb hby at_71) rfl k) ?_
      show own_Ends p e below s _ _ _ (T12.setTop (mkF m 72 #[.val (.long q0), .second, .val (.long q1), .second, .val (.long q2), .second, .val (.long q3), .second, .val (.long q4), .second, .val (.int p5), .val (.int (0 : Int32)), .val (.int (1 : Int32)), .val (.long q1), .second, .val (.long (0 : Int64)), .second, .unset, .unset, .unset, .unset] [(.long (p5.toInt64)), (.long (q3 ^^^ q4)), (.long q4), (.long q3), (.long q1), (.long q0), (.ref b12), (.ref b12)]))
      refine own_step (fun t k => XS.lload X12.here hx rfl (hb hby at_72) rfl k) ?_
      show own_Ends p e below s _ _ _ (T12.setTop (mkF m 74 #[.val (.long q0), .second, .val (.long q1), .second, .val (.long q2), .second, .val (.long q3), .second, .val (.long q4), .second, .val (.int p5), .val (.int (0 : Int32)), .val (.int (1 : Int32)), .val (.long q1), .second, .val (.long (0 : Int64)), .second, .unset, .unset, .unset, .unset] [(.long q4), (.long (p5.toInt64)), (.long (q3 ^^^ q4)), (.long q4), (.long q3), (.long q1), (.long q0), (.ref b12), (.ref b12)]))
      refine own_step (fun t k => XS.lload X12.here hx rfl (hb hby at_74) rfl k) ?_
      show own_Ends p e below s _ _ _ (T12.setTop (mkF m 76 #[.val (.long q0), .second, .val (.long q1), .second, .val (.long q2), .second, .val (.long q3), .second, .val (.long q4), .second, .val (.int p5), .val (.int (0 : Int32)), .val (.int (1 : Int32)), .val (.long q1), .second, .val (.long (0 : Int64)), .second, .unset, .unset, .unset, .unset] [(.long q3), (.long q4), (.long (p5.toInt64)), (.long (q3 ^^^ q4)), (.long q4), (.long q3), (.long q1), (.long q0), (.ref b12), (.ref b12)]))
      refine own_step (fun t k => XS.lsub X12.here hx rfl (hb hby at_76) rfl k) ?_
      show own_Ends p e below s _ _ _ (T12.setTop (mkF m 77 #[.val (.long q0), .second, .val (.long q1), .second, .val (.long q2), .second, .val (.long q3), .second, .val (.long q4), .second, .val (.int p5), .val (.int (0 : Int32)), .val (.int (1 : Int32)), .val (.long q1), .second, .val (.long (0 : Int64)), .second, .unset, .unset, .unset, .unset] [(.long (q4 - q3)), (.long (p5.toInt64)), (.long (q3 ^^^ q4)), (.long q4), (.long q3), (.long q1), (.long q0), (.ref b12), (.ref b12)]))
      refine own_step (fun t k => XS.lload X12.here hx rfl (hb hby at_77) rfl k) ?_
      show own_Ends p e below s _ _ _ (T12.setTop (mkF m 79 #[.val (.long q0), .second, .val (.long q1), .second, .val (.long q2), .second, .val (.long q3), .second, .val (.long q4), .second, .val (.int p5), .val (.int (0 : Int32)), .val (.int (1 : Int32)), .val (.long q1), .second, .val (.long (0 : Int64)), .second, .unset, .unset, .unset, .unset] [(.long (0 : Int64)), (.long (q4 - q3)), (.long (p5.toInt64)), (.long (q3 ^^^ q4)), (.long q4), (.long q3), (.long q1), (.long q0), (.ref b12), (.ref b12)]))
      obtain ⟨_, _, ⟨T13, L13, k13, n13⟩, -, X13, ⟨Lc13, hQ13, l13, y13, z13⟩, st13⟩ := X12.specialBack hx (y := (⟨"com/example/hop_mutex/hopmutex/command/Simulation$Figures", "<init>", "(JJJJJJJJ)V"⟩ : MethodName)) rfl hown (mvT hZ (hw _ (List.mem_of_getElem? (i := 3) rfl))) (mvT hZ (hw _ (List.mem_of_getElem? (i := 4) rfl))) (mvT hZ (hw _ (List.mem_of_getElem? (i := 5) rfl))) (by decide) (backOf (W := 1) (rm1 l Z a0 hw [] b12 q0 q1 q3 q4 (q3 ^^^ q4) (p5.toInt64) (q4 - q3) (0 : Int64)  h12 n0 Z12 gn_b12 A12 F12_entries F12_completed F12_messages F12_entryDelayMax F12_syncDelays F12_syncDelayMax F12_syncDelayTotal F12_overlaps) hZ (hw _ (List.mem_of_getElem? (i := 5) rfl)) (hw _ (List.mem_of_getElem? (i := 2) rfl)) (by decide) (by decide)) (g := (mkF m 79 #[.val (.long q0), .second, .val (.long q1), .second, .val (.long q2), .second, .val (.long q3), .second, .val (.long q4), .second, .val (.int p5), .val (.int (0 : Int32)), .val (.int (1 : Int32)), .val (.long q1), .second, .val (.long (0 : Int64)), .second, .unset, .unset, .unset, .unset] [(.long (0 : Int64)), (.long (q4 - q3)), (.long (p5.toInt64)), (.long (q3 ^^^ q4)), (.long q4), (.long q3), (.long q1), (.long q0), (.ref b12), (.ref b12)])) rfl (by rw [hml]; rfl) (Steps.refl _) (a := b12) (argsL := [(.long q0), (.long q1), (.long q3), (.long q4), (.long (q3 ^^^ q4)), (.long (p5.toInt64)), (.long (q4 - q3)), (.long (0 : Int64))]) (rest := [(.ref b12)]) (lenOf pd0_0 rfl) rfl (by show 2 * 0 + _ ≤ _; exact Nat.le_of_eq rfl) (hb hby at_79) (fun _ _ => ⟨rfl, e12, (by decide : 1 + 0 ≤ _), (by decide : 8 + 0 ≤ _)⟩)
      dsimp only [Pt.U, Pt.locs, Pt.cells, Pt.slots] at X13 l13 y13 z13 st13 hQ13
      subst l13 y13 z13
      obtain ⟨rfl, N13q, Z13, K13, E13_0, F13_entries, F13_completed, F13_messages, F13_entryDelayMax, F13_syncDelays, F13_syncDelayMax, F13_syncDelayTotal, F13_overlaps⟩ := hQ13
      have N13 := Fr.app N0 N13q
      refine own_step (fun t k => st13.trans k) ?_
      show own_Ends p e below s _ _ _ (T13.setTop (mkF m 82 #[.val (.long q0), .second, .val (.long q1), .second, .val (.long q2), .second, .val (.long q3), .second, .val (.long q4), .second, .val (.int p5), .val (.int (0 : Int32)), .val (.int (1 : Int32)), .val (.long q1), .second, .val (.long (0 : Int64)), .second, .unset, .unset, .unset, .unset] [(.ref b12)]))
      refine own_step (fun t k => XS.astore X13.here hx rfl (hb hby at_82) rfl rfl (l' := #[.val (.long q0), .second, .val (.long q1), .second, .val (.long q2), .second, .val (.long q3), .second, .val (.long q4), .second, .val (.int p5), .val (.int (0 : Int32)), .val (.int (1 : Int32)), .val (.long q1), .second, .val (.long (0 : Int64)), .second, .val (.ref b12), .unset, .unset, .unset]) rfl k) ?_
      show own_Ends p e below s _ _ _ (T13.setTop (mkF m 84 #[.val (.long q0), .second, .val (.long q1), .second, .val (.long q2), .second, .val (.long q3), .second, .val (.long q4), .second, .val (.int p5), .val (.int (0 : Int32)), .val (.int (1 : Int32)), .val (.long q1), .second, .val (.long (0 : Int64)), .second, .val (.ref b12), .unset, .unset, .unset] []))
      refine own_step (fun t k => XS.iload X13.here hx rfl (hb hby at_84) rfl k) ?_
      show own_Ends p e below s _ _ _ (T13.setTop (mkF m 86 #[.val (.long q0), .second, .val (.long q1), .second, .val (.long q2), .second, .val (.long q3), .second, .val (.long q4), .second, .val (.int p5), .val (.int (0 : Int32)), .val (.int (1 : Int32)), .val (.long q1), .second, .val (.long (0 : Int64)), .second, .val (.ref b12), .unset, .unset, .unset] [(.int (0 : Int32))]))
      refine own_step (fun t k => XS.ifNo X13.here hx rfl (hb hby at_86) rfl ((if0 _ _).trans (teq (by decide : ((0 : Int32) = (0 : Int32)))).2) k) ?_
      show own_Ends p e below s _ _ _ (T13.setTop (mkF m 89 #[.val (.long q0), .second, .val (.long q1), .second, .val (.long q2), .second, .val (.long q3), .second, .val (.long q4), .second, .val (.int p5), .val (.int (0 : Int32)), .val (.int (1 : Int32)), .val (.long q1), .second, .val (.long (0 : Int64)), .second, .val (.ref b12), .unset, .unset, .unset] []))
      refine own_step (fun t k => XS.lloadN X13.here hx rfl (hb hby at_89) rfl k) ?_
      show own_Ends p e below s _ _ _ (T13.setTop (mkF m 90 #[.val (.long q0), .second, .val (.long q1), .second, .val (.long q2), .second, .val (.long q3), .second, .val (.long q4), .second, .val (.int p5), .val (.int (0 : Int32)), .val (.int (1 : Int32)), .val (.long q1), .second, .val (.long (0 : Int64)), .second, .val (.ref b12), .unset, .unset, .unset] [(.long q1)]))
      refine own_step (fun t k => XS.lloadN X13.here hx rfl (hb hby at_90) rfl k) ?_
      show own_Ends p e below s _ _ _ (T13.setTop (mkF m 91 #[.val (.long q0), .second, .val (.long q1), .second, .val (.long q2), .second, .val (.long q3), .second, .val (.long q4), .second, .val (.int p5), .val (.int (0 : Int32)), .val (.int (1 : Int32)), .val (.long q1), .second, .val (.long (0 : Int64)), .second, .val (.ref b12), .unset, .unset, .unset] [(.long q0), (.long q1)]))
      refine own_step (fun t k => XS.lcmp X13.here hx rfl (hb hby at_91) rfl k) ?_
      show own_Ends p e below s _ _ _ (T13.setTop (mkF m 92 #[.val (.long q0), .second, .val (.long q1), .second, .val (.long q2), .second, .val (.long q3), .second, .val (.long q4), .second, .val (.int p5), .val (.int (0 : Int32)), .val (.int (1 : Int32)), .val (.long q1), .second, .val (.long (0 : Int64)), .second, .val (.ref b12), .unset, .unset, .unset] [(.int (lcmpW q1 q0))]))
      by_cases hc92_14 : q1 = q0
      · -- q1 = q0
        refine own_step (fun t k => XS.ifNo X13.here hx rfl (hb hby at_92) rfl ((if0 _ _).trans (teq ((lw_eq q1 q0).mpr hc92_14)).2) k) ?_
        show own_Ends p e below s _ _ _ (T13.setTop (mkF m 95 #[.val (.long q0), .second, .val (.long q1), .second, .val (.long q2), .second, .val (.long q3), .second, .val (.long q4), .second, .val (.int p5), .val (.int (0 : Int32)), .val (.int (1 : Int32)), .val (.long q1), .second, .val (.long (0 : Int64)), .second, .val (.ref b12), .unset, .unset, .unset] []))
        refine own_step (fun t k => XS.iconst X13.here hx rfl (hb hby at_95) k) ?_
        show own_Ends p e below s _ _ _ (T13.setTop (mkF m 96 #[.val (.long q0), .second, .val (.long q1), .second, .val (.long q2), .second, .val (.long q3), .second, .val (.long q4), .second, .val (.int p5), .val (.int (0 : Int32)), .val (.int (1 : Int32)), .val (.long q1), .second, .val (.long (0 : Int64)), .second, .val (.ref b12), .unset, .unset, .unset] [(.int (1 : Int32))]))
        refine own_step (fun t k => XS.goto X13.here hx rfl (pc0 := 96) (pc' := 100) rfl (hb hby at_96) (by decide) (by decide) k) ?_
        show own_Ends p e below s _ _ _ (T13.setTop (mkF m 100 #[.val (.long q0), .second, .val (.long q1), .second, .val (.long q2), .second, .val (.long q3), .second, .val (.long q4), .second, .val (.int p5), .val (.int (0 : Int32)), .val (.int (1 : Int32)), .val (.long q1), .second, .val (.long (0 : Int64)), .second, .val (.ref b12), .unset, .unset, .unset] [(.int (1 : Int32))]))
        refine own_step (fun t k => XS.istore X13.here hx rfl (hb hby at_100) rfl (l' := #[.val (.long q0), .second, .val (.long q1), .second, .val (.long q2), .second, .val (.long q3), .second, .val (.long q4), .second, .val (.int p5), .val (.int (0 : Int32)), .val (.int (1 : Int32)), .val (.long q1), .second, .val (.long (0 : Int64)), .second, .val (.ref b12), .val (.int (1 : Int32)), .unset, .unset]) rfl k) ?_
        show own_Ends p e below s _ _ _ (T13.setTop (mkF m 102 #[.val (.long q0), .second, .val (.long q1), .second, .val (.long q2), .second, .val (.long q3), .second, .val (.long q4), .second, .val (.int p5), .val (.int (0 : Int32)), .val (.int (1 : Int32)), .val (.long q1), .second, .val (.long (0 : Int64)), .second, .val (.ref b12), .val (.int (1 : Int32)), .unset, .unset] []))
        refine own_step (fun t k => XS.iload X13.here hx rfl (hb hby at_102) rfl k) ?_
        show own_Ends p e below s _ _ _ (T13.setTop (mkF m 104 #[.val (.long q0), .second, .val (.long q1), .second, .val (.long q2), .second, .val (.long q3), .second, .val (.long q4), .second, .val (.int p5), .val (.int (0 : Int32)), .val (.int (1 : Int32)), .val (.long q1), .second, .val (.long (0 : Int64)), .second, .val (.ref b12), .val (.int (1 : Int32)), .unset, .unset] [(.int (1 : Int32))]))
        refine own_step (fun t k => XS.ifYes X13.here hx rfl (pc0 := 104) (pc' := 114) rfl (hb hby at_104) rfl ((if0 _ _).trans (feq (by decide : ¬ ((1 : Int32) = (0 : Int32)))).2) (by decide) (by decide) k) ?_
        show own_Ends p e below s _ _ _ (T13.setTop (mkF m 114 #[.val (.long q0), .second, .val (.long q1), .second, .val (.long q2), .second, .val (.long q3), .second, .val (.long q4), .second, .val (.int p5), .val (.int (0 : Int32)), .val (.int (1 : Int32)), .val (.long q1), .second, .val (.long (0 : Int64)), .second, .val (.ref b12), .val (.int (1 : Int32)), .unset, .unset] []))
        refine own_step (fun t k => XS.iconst X13.here hx rfl (hb hby at_114) k) ?_
        show own_Ends p e below s _ _ _ (T13.setTop (mkF m 115 #[.val (.long q0), .second, .val (.long q1), .second, .val (.long q2), .second, .val (.long q3), .second, .val (.long q4), .second, .val (.int p5), .val (.int (0 : Int32)), .val (.int (1 : Int32)), .val (.long q1), .second, .val (.long (0 : Int64)), .second, .val (.ref b12), .val (.int (1 : Int32)), .unset, .unset] [(.int (1 : Int32))]))
        refine own_step (fun t k => XS.goto X13.here hx rfl (pc0 := 115) (pc' := 119) rfl (hb hby at_115) (by decide) (by decide) k) ?_
        show own_Ends p e below s _ _ _ (T13.setTop (mkF m 119 #[.val (.long q0), .second, .val (.long q1), .second, .val (.long q2), .second, .val (.long q3), .second, .val (.long q4), .second, .val (.int p5), .val (.int (0 : Int32)), .val (.int (1 : Int32)), .val (.long q1), .second, .val (.long (0 : Int64)), .second, .val (.ref b12), .val (.int (1 : Int32)), .unset, .unset] [(.int (1 : Int32))]))
        refine own_step (fun t k => XS.istore X13.here hx rfl (hb hby at_119) rfl (l' := #[.val (.long q0), .second, .val (.long q1), .second, .val (.long q2), .second, .val (.long q3), .second, .val (.long q4), .second, .val (.int p5), .val (.int (0 : Int32)), .val (.int (1 : Int32)), .val (.long q1), .second, .val (.long (0 : Int64)), .second, .val (.ref b12), .val (.int (1 : Int32)), .val (.int (1 : Int32)), .unset]) rfl k) ?_
        show own_Ends p e below s _ _ _ (T13.setTop (mkF m 121 #[.val (.long q0), .second, .val (.long q1), .second, .val (.long q2), .second, .val (.long q3), .second, .val (.long q4), .second, .val (.int p5), .val (.int (0 : Int32)), .val (.int (1 : Int32)), .val (.long q1), .second, .val (.long (0 : Int64)), .second, .val (.ref b12), .val (.int (1 : Int32)), .val (.int (1 : Int32)), .unset] []))
        refine own_step (fun t k => XS.iload X13.here hx rfl (hb hby at_121) rfl k) ?_
        show own_Ends p e below s _ _ _ (T13.setTop (mkF m 123 #[.val (.long q0), .second, .val (.long q1), .second, .val (.long q2), .second, .val (.long q3), .second, .val (.long q4), .second, .val (.int p5), .val (.int (0 : Int32)), .val (.int (1 : Int32)), .val (.long q1), .second, .val (.long (0 : Int64)), .second, .val (.ref b12), .val (.int (1 : Int32)), .val (.int (1 : Int32)), .unset] [(.int (1 : Int32))]))
        refine own_step (fun t k => XS.ifNo X13.here hx rfl (hb hby at_123) rfl ((if0 _ _).trans (feq (by decide : ¬ ((1 : Int32) = (0 : Int32)))).1) k) ?_
        show own_Ends p e below s _ _ _ (T13.setTop (mkF m 126 #[.val (.long q0), .second, .val (.long q1), .second, .val (.long q2), .second, .val (.long q3), .second, .val (.long q4), .second, .val (.int p5), .val (.int (0 : Int32)), .val (.int (1 : Int32)), .val (.long q1), .second, .val (.long (0 : Int64)), .second, .val (.ref b12), .val (.int (1 : Int32)), .val (.int (1 : Int32)), .unset] []))
        refine own_step (fun t k => XS.iload X13.here hx rfl (hb hby at_126) rfl k) ?_
        show own_Ends p e below s _ _ _ (T13.setTop (mkF m 128 #[.val (.long q0), .second, .val (.long q1), .second, .val (.long q2), .second, .val (.long q3), .second, .val (.long q4), .second, .val (.int p5), .val (.int (0 : Int32)), .val (.int (1 : Int32)), .val (.long q1), .second, .val (.long (0 : Int64)), .second, .val (.ref b12), .val (.int (1 : Int32)), .val (.int (1 : Int32)), .unset] [(.int (1 : Int32))]))
        refine own_step (fun t k => XS.ifNo X13.here hx rfl (hb hby at_128) rfl ((if0 _ _).trans (feq (by decide : ¬ ((1 : Int32) = (0 : Int32)))).1) k) ?_
        show own_Ends p e below s _ _ _ (T13.setTop (mkF m 131 #[.val (.long q0), .second, .val (.long q1), .second, .val (.long q2), .second, .val (.long q3), .second, .val (.long q4), .second, .val (.int p5), .val (.int (0 : Int32)), .val (.int (1 : Int32)), .val (.long q1), .second, .val (.long (0 : Int64)), .second, .val (.ref b12), .val (.int (1 : Int32)), .val (.int (1 : Int32)), .unset] []))
        refine own_step (fun t k => XS.iconst X13.here hx rfl (hb hby at_131) k) ?_
        show own_Ends p e below s _ _ _ (T13.setTop (mkF m 132 #[.val (.long q0), .second, .val (.long q1), .second, .val (.long q2), .second, .val (.long q3), .second, .val (.long q4), .second, .val (.int p5), .val (.int (0 : Int32)), .val (.int (1 : Int32)), .val (.long q1), .second, .val (.long (0 : Int64)), .second, .val (.ref b12), .val (.int (1 : Int32)), .val (.int (1 : Int32)), .unset] [(.int (1 : Int32))]))
        refine own_step (fun t k => XS.goto X13.here hx rfl (pc0 := 132) (pc' := 136) rfl (hb hby at_132) (by decide) (by decide) k) ?_
        show own_Ends p e below s _ _ _ (T13.setTop (mkF m 136 #[.val (.long q0), .second, .val (.long q1), .second, .val (.long q2), .second, .val (.long q3), .second, .val (.long q4), .second, .val (.int p5), .val (.int (0 : Int32)), .val (.int (1 : Int32)), .val (.long q1), .second, .val (.long (0 : Int64)), .second, .val (.ref b12), .val (.int (1 : Int32)), .val (.int (1 : Int32)), .unset] [(.int (1 : Int32))]))
        refine own_step (fun t k => XS.istore X13.here hx rfl (hb hby at_136) rfl (l' := #[.val (.long q0), .second, .val (.long q1), .second, .val (.long q2), .second, .val (.long q3), .second, .val (.long q4), .second, .val (.int p5), .val (.int (0 : Int32)), .val (.int (1 : Int32)), .val (.long q1), .second, .val (.long (0 : Int64)), .second, .val (.ref b12), .val (.int (1 : Int32)), .val (.int (1 : Int32)), .val (.int (1 : Int32))]) rfl k) ?_
        show own_Ends p e below s _ _ _ (T13.setTop (mkF m 138 #[.val (.long q0), .second, .val (.long q1), .second, .val (.long q2), .second, .val (.long q3), .second, .val (.long q4), .second, .val (.int p5), .val (.int (0 : Int32)), .val (.int (1 : Int32)), .val (.long q1), .second, .val (.long (0 : Int64)), .second, .val (.ref b12), .val (.int (1 : Int32)), .val (.int (1 : Int32)), .val (.int (1 : Int32))] []))
        refine own_step (fun t k => XS.aload X13.here hx rfl (hb hby at_138) rfl rfl k) ?_
        show own_Ends p e below s _ _ _ (T13.setTop (mkF m 140 #[.val (.long q0), .second, .val (.long q1), .second, .val (.long q2), .second, .val (.long q3), .second, .val (.long q4), .second, .val (.int p5), .val (.int (0 : Int32)), .val (.int (1 : Int32)), .val (.long q1), .second, .val (.long (0 : Int64)), .second, .val (.ref b12), .val (.int (1 : Int32)), .val (.int (1 : Int32)), .val (.int (1 : Int32))] [(.ref b12)]))
        obtain ⟨cq15, kq15, q15a, q15b, q15c⟩ := isOf hZ rfl E13_0
        obtain ⟨_, _, ⟨T15, L15, k15, n15⟩, -, X15, ⟨Lc15, hQ15, l15, y15, z15⟩, st15⟩ := X13.virtualBack hx (y := (⟨"com/example/hop_mutex/hopmutex/command/Simulation$Figures", "succeeded", "()Z"⟩ : MethodName)) (z := (⟨"com/example/hop_mutex/hopmutex/command/Simulation$Figures", "succeeded", "()Z"⟩ : MethodName)) hown (mvT hZ (hw _ (List.mem_of_getElem? (i := 30) rfl))) (mvT hZ (hw _ (List.mem_of_getElem? (i := 31) rfl))) (notFace_of_selects (args := #[]) (mvT hZ (hw _ (List.mem_of_getElem? (i := 33) rfl)))) (mvT hZ (hw _ (List.mem_of_getElem? (i := 33) rfl))) (mvT hZ (hw _ (List.mem_of_getElem? (i := 32) rfl))) (by decide) (backOf (W := 0) (rm4 l Z a0 hw [] b12 q1 q0 (0 : Int64) T13.heap n0 F13_completed F13_entries F13_overlaps ) hZ (hw _ (List.mem_of_getElem? (i := 34) rfl)) (hw _ (List.mem_of_getElem? (i := 2) rfl)) (by decide) (by decide)) q15a q15c (g := (mkF m 140 #[.val (.long q0), .second, .val (.long q1), .second, .val (.long q2), .second, .val (.long q3), .second, .val (.long q4), .second, .val (.int p5), .val (.int (0 : Int32)), .val (.int (1 : Int32)), .val (.long q1), .second, .val (.long (0 : Int64)), .second, .val (.ref b12), .val (.int (1 : Int32)), .val (.int (1 : Int32)), .val (.int (1 : Int32))] [(.ref b12)])) rfl (by rw [hml]; rfl) (Steps.refl _) (argsL := []) (rest := []) (lenOf pd0_1 rfl) rfl (by show 2 * 0 + _ ≤ _; exact Nat.le_of_eq rfl) (hb hby at_140) (fun _ _ => ⟨rfl, rfl, (by decide : 1 + 0 ≤ _), (by decide : 8 + 0 ≤ _)⟩)
        dsimp only [Pt.U, Pt.locs, Pt.cells, Pt.slots] at X15 l15 y15 z15 st15 hQ15
        subst l15 y15 z15
        obtain ⟨rfl, N15q, e15⟩ := hQ15
        have N15 := Fr.app N13 N15q
        refine own_step (fun t k => st15.trans k) ?_
        show own_Ends p e below s _ _ _ (T15.setTop (mkF m 143 #[.val (.long q0), .second, .val (.long q1), .second, .val (.long q2), .second, .val (.long q3), .second, .val (.long q4), .second, .val (.int p5), .val (.int (0 : Int32)), .val (.int (1 : Int32)), .val (.long q1), .second, .val (.long (0 : Int64)), .second, .val (.ref b12), .val (.int (1 : Int32)), .val (.int (1 : Int32)), .val (.int (1 : Int32))] [(.int (f4_0 q1 q0 (0 : Int64)))]))
        refine own_step (fun t k => XS.iload X15.here hx rfl (hb hby at_143) rfl k) ?_
        show own_Ends p e below s _ _ _ (T15.setTop (mkF m 145 #[.val (.long q0), .second, .val (.long q1), .second, .val (.long q2), .second, .val (.long q3), .second, .val (.long q4), .second, .val (.int p5), .val (.int (0 : Int32)), .val (.int (1 : Int32)), .val (.long q1), .second, .val (.long (0 : Int64)), .second, .val (.ref b12), .val (.int (1 : Int32)), .val (.int (1 : Int32)), .val (.int (1 : Int32))] [(.int (1 : Int32)), (.int (f4_0 q1 q0 (0 : Int64)))]))
        refine own_step (fun t k => XS.icmpNo X15.here hx rfl (hb hby at_145) rfl (teq (show (f4_0 q1 q0 (0 : Int64)) = (1 : Int32) from by simp [f4_0, hc92_14])).2 k) ?_
        show own_Ends p e below s _ _ _ (T15.setTop (mkF m 148 #[.val (.long q0), .second, .val (.long q1), .second, .val (.long q2), .second, .val (.long q3), .second, .val (.long q4), .second, .val (.int p5), .val (.int (0 : Int32)), .val (.int (1 : Int32)), .val (.long q1), .second, .val (.long (0 : Int64)), .second, .val (.ref b12), .val (.int (1 : Int32)), .val (.int (1 : Int32)), .val (.int (1 : Int32))] []))
        refine own_step (fun t k => XS.iconst X15.here hx rfl (hb hby at_148) k) ?_
        show own_Ends p e below s _ _ _ (T15.setTop (mkF m 149 #[.val (.long q0), .second, .val (.long q1), .second, .val (.long q2), .second, .val (.long q3), .second, .val (.long q4), .second, .val (.int p5), .val (.int (0 : Int32)), .val (.int (1 : Int32)), .val (.long q1), .second, .val (.long (0 : Int64)), .second, .val (.ref b12), .val (.int (1 : Int32)), .val (.int (1 : Int32)), .val (.int (1 : Int32))] [(.int (1 : Int32))]))
        refine own_step (fun t k => XS.goto X15.here hx rfl (pc0 := 149) (pc' := 153) rfl (hb hby at_149) (by decide) (by decide) k) ?_
        show own_Ends p e below s _ _ _ (T15.setTop (mkF m 153 #[.val (.long q0), .second, .val (.long q1), .second, .val (.long q2), .second, .val (.long q3), .second, .val (.long q4), .second, .val (.int p5), .val (.int (0 : Int32)), .val (.int (1 : Int32)), .val (.long q1), .second, .val (.long (0 : Int64)), .second, .val (.ref b12), .val (.int (1 : Int32)), .val (.int (1 : Int32)), .val (.int (1 : Int32))] [(.int (1 : Int32))]))
        exact own_retN X15 hx hlk (t := .boolean) hret (by simp) (hb hby at_153) (w := (1 : Int32)) (by decide) ⟨rfl, N15⟩ (by decide) (by decide)
      · -- not q1 = q0
        refine own_step (fun t k => XS.ifYes X13.here hx rfl (pc0 := 92) (pc' := 99) rfl (hb hby at_92) rfl ((if0 _ _).trans (feq (fun q => hc92_14 ((lw_eq q1 q0).mp q))).2) (by decide) (by decide) k) ?_
        show own_Ends p e below s _ _ _ (T13.setTop (mkF m 99 #[.val (.long q0), .second, .val (.long q1), .second, .val (.long q2), .second, .val (.long q3), .second, .val (.long q4), .second, .val (.int p5), .val (.int (0 : Int32)), .val (.int (1 : Int32)), .val (.long q1), .second, .val (.long (0 : Int64)), .second, .val (.ref b12), .unset, .unset, .unset] []))
        refine own_step (fun t k => XS.iconst X13.here hx rfl (hb hby at_99) k) ?_
        show own_Ends p e below s _ _ _ (T13.setTop (mkF m 100 #[.val (.long q0), .second, .val (.long q1), .second, .val (.long q2), .second, .val (.long q3), .second, .val (.long q4), .second, .val (.int p5), .val (.int (0 : Int32)), .val (.int (1 : Int32)), .val (.long q1), .second, .val (.long (0 : Int64)), .second, .val (.ref b12), .unset, .unset, .unset] [(.int (0 : Int32))]))
        refine own_step (fun t k => XS.istore X13.here hx rfl (hb hby at_100) rfl (l' := #[.val (.long q0), .second, .val (.long q1), .second, .val (.long q2), .second, .val (.long q3), .second, .val (.long q4), .second, .val (.int p5), .val (.int (0 : Int32)), .val (.int (1 : Int32)), .val (.long q1), .second, .val (.long (0 : Int64)), .second, .val (.ref b12), .val (.int (0 : Int32)), .unset, .unset]) rfl k) ?_
        show own_Ends p e below s _ _ _ (T13.setTop (mkF m 102 #[.val (.long q0), .second, .val (.long q1), .second, .val (.long q2), .second, .val (.long q3), .second, .val (.long q4), .second, .val (.int p5), .val (.int (0 : Int32)), .val (.int (1 : Int32)), .val (.long q1), .second, .val (.long (0 : Int64)), .second, .val (.ref b12), .val (.int (0 : Int32)), .unset, .unset] []))
        refine own_step (fun t k => XS.iload X13.here hx rfl (hb hby at_102) rfl k) ?_
        show own_Ends p e below s _ _ _ (T13.setTop (mkF m 104 #[.val (.long q0), .second, .val (.long q1), .second, .val (.long q2), .second, .val (.long q3), .second, .val (.long q4), .second, .val (.int p5), .val (.int (0 : Int32)), .val (.int (1 : Int32)), .val (.long q1), .second, .val (.long (0 : Int64)), .second, .val (.ref b12), .val (.int (0 : Int32)), .unset, .unset] [(.int (1 : Int32))]))
        refine own_step (fun t k => XS.ifYes X13.here hx rfl (pc0 := 104) (pc' := 114) rfl (hb hby at_104) rfl ((if0 _ _).trans (feq (by decide : ¬ ((1 : Int32) = (0 : Int32)))).2) (by decide) (by decide) k) ?_
        show own_Ends p e below s _ _ _ (T13.setTop (mkF m 114 #[.val (.long q0), .second, .val (.long q1), .second, .val (.long q2), .second, .val (.long q3), .second, .val (.long q4), .second, .val (.int p5), .val (.int (0 : Int32)), .val (.int (1 : Int32)), .val (.long q1), .second, .val (.long (0 : Int64)), .second, .val (.ref b12), .val (.int (0 : Int32)), .unset, .unset] []))
        refine own_step (fun t k => XS.iconst X13.here hx rfl (hb hby at_114) k) ?_
        show own_Ends p e below s _ _ _ (T13.setTop (mkF m 115 #[.val (.long q0), .second, .val (.long q1), .second, .val (.long q2), .second, .val (.long q3), .second, .val (.long q4), .second, .val (.int p5), .val (.int (0 : Int32)), .val (.int (1 : Int32)), .val (.long q1), .second, .val (.long (0 : Int64)), .second, .val (.ref b12), .val (.int (0 : Int32)), .unset, .unset] [(.int (1 : Int32))]))
        refine own_step (fun t k => XS.goto X13.here hx rfl (pc0 := 115) (pc' := 119) rfl (hb hby at_115) (by decide) (by decide) k) ?_
        show own_Ends p e below s _ _ _ (T13.setTop (mkF m 119 #[.val (.long q0), .second, .val (.long q1), .second, .val (.long q2), .second, .val (.long q3), .second, .val (.long q4), .second, .val (.int p5), .val (.int (0 : Int32)), .val (.int (1 : Int32)), .val (.long q1), .second, .val (.long (0 : Int64)), .second, .val (.ref b12), .val (.int (0 : Int32)), .unset, .unset] [(.int (1 : Int32))]))
        refine own_step (fun t k => XS.istore X13.here hx rfl (hb hby at_119) rfl (l' := #[.val (.long q0), .second, .val (.long q1), .second, .val (.long q2), .second, .val (.long q3), .second, .val (.long q4), .second, .val (.int p5), .val (.int (0 : Int32)), .val (.int (1 : Int32)), .val (.long q1), .second, .val (.long (0 : Int64)), .second, .val (.ref b12), .val (.int (0 : Int32)), .val (.int (1 : Int32)), .unset]) rfl k) ?_
        show own_Ends p e below s _ _ _ (T13.setTop (mkF m 121 #[.val (.long q0), .second, .val (.long q1), .second, .val (.long q2), .second, .val (.long q3), .second, .val (.long q4), .second, .val (.int p5), .val (.int (0 : Int32)), .val (.int (1 : Int32)), .val (.long q1), .second, .val (.long (0 : Int64)), .second, .val (.ref b12), .val (.int (0 : Int32)), .val (.int (1 : Int32)), .unset] []))
        refine own_step (fun t k => XS.iload X13.here hx rfl (hb hby at_121) rfl k) ?_
        show own_Ends p e below s _ _ _ (T13.setTop (mkF m 123 #[.val (.long q0), .second, .val (.long q1), .second, .val (.long q2), .second, .val (.long q3), .second, .val (.long q4), .second, .val (.int p5), .val (.int (0 : Int32)), .val (.int (1 : Int32)), .val (.long q1), .second, .val (.long (0 : Int64)), .second, .val (.ref b12), .val (.int (0 : Int32)), .val (.int (1 : Int32)), .unset] [(.int (0 : Int32))]))
        refine own_step (fun t k => XS.ifYes X13.here hx rfl (pc0 := 123) (pc' := 135) rfl (hb hby at_123) rfl ((if0 _ _).trans (teq (by decide : ((0 : Int32) = (0 : Int32)))).1) (by decide) (by decide) k) ?_
        show own_Ends p e below s _ _ _ (T13.setTop (mkF m 135 #[.val (.long q0), .second, .val (.long q1), .second, .val (.long q2), .second, .val (.long q3), .second, .val (.long q4), .second, .val (.int p5), .val (.int (0 : Int32)), .val (.int (1 : Int32)), .val (.long q1), .second, .val (.long (0 : Int64)), .second, .val (.ref b12), .val (.int (0 : Int32)), .val (.int (1 : Int32)), .unset] []))
        refine own_step (fun t k => XS.iconst X13.here hx rfl (hb hby at_135) k) ?_
        show own_Ends p e below s _ _ _ (T13.setTop (mkF m 136 #[.val (.long q0), .second, .val (.long q1), .second, .val (.long q2), .second, .val (.long q3), .second, .val (.long q4), .second, .val (.int p5), .val (.int (0 : Int32)), .val (.int (1 : Int32)), .val (.long q1), .second, .val (.long (0 : Int64)), .second, .val (.ref b12), .val (.int (0 : Int32)), .val (.int (1 : Int32)), .unset] [(.int (0 : Int32))]))
        refine own_step (fun t k => XS.istore X13.here hx rfl (hb hby at_136) rfl (l' := #[.val (.long q0), .second, .val (.long q1), .second, .val (.long q2), .second, .val (.long q3), .second, .val (.long q4), .second, .val (.int p5), .val (.int (0 : Int32)), .val (.int (1 : Int32)), .val (.long q1), .second, .val (.long (0 : Int64)), .second, .val (.ref b12), .val (.int (0 : Int32)), .val (.int (1 : Int32)), .val (.int (0 : Int32))]) rfl k) ?_
        show own_Ends p e below s _ _ _ (T13.setTop (mkF m 138 #[.val (.long q0), .second, .val (.long q1), .second, .val (.long q2), .second, .val (.long q3), .second, .val (.long q4), .second, .val (.int p5), .val (.int (0 : Int32)), .val (.int (1 : Int32)), .val (.long q1), .second, .val (.long (0 : Int64)), .second, .val (.ref b12), .val (.int (0 : Int32)), .val (.int (1 : Int32)), .val (.int (0 : Int32))] []))
        refine own_step (fun t k => XS.aload X13.here hx rfl (hb hby at_138) rfl rfl k) ?_
        show own_Ends p e below s _ _ _ (T13.setTop (mkF m 140 #[.val (.long q0), .second, .val (.long q1), .second, .val (.long q2), .second, .val (.long q3), .second, .val (.long q4), .second, .val (.int p5), .val (.int (0 : Int32)), .val (.int (1 : Int32)), .val (.long q1), .second, .val (.long (0 : Int64)), .second, .val (.ref b12), .val (.int (0 : Int32)), .val (.int (1 : Int32)), .val (.int (0 : Int32))] [(.ref b12)]))
        obtain ⟨cq16, kq16, q16a, q16b, q16c⟩ := isOf hZ rfl E13_0
        obtain ⟨_, _, ⟨T16, L16, k16, n16⟩, -, X16, ⟨Lc16, hQ16, l16, y16, z16⟩, st16⟩ := X13.virtualBack hx (y := (⟨"com/example/hop_mutex/hopmutex/command/Simulation$Figures", "succeeded", "()Z"⟩ : MethodName)) (z := (⟨"com/example/hop_mutex/hopmutex/command/Simulation$Figures", "succeeded", "()Z"⟩ : MethodName)) hown (mvT hZ (hw _ (List.mem_of_getElem? (i := 30) rfl))) (mvT hZ (hw _ (List.mem_of_getElem? (i := 31) rfl))) (notFace_of_selects (args := #[]) (mvT hZ (hw _ (List.mem_of_getElem? (i := 33) rfl)))) (mvT hZ (hw _ (List.mem_of_getElem? (i := 33) rfl))) (mvT hZ (hw _ (List.mem_of_getElem? (i := 32) rfl))) (by decide) (backOf (W := 0) (rm4 l Z a0 hw [] b12 q1 q0 (0 : Int64) T13.heap n0 F13_completed F13_entries F13_overlaps ) hZ (hw _ (List.mem_of_getElem? (i := 34) rfl)) (hw _ (List.mem_of_getElem? (i := 2) rfl)) (by decide) (by decide)) q16a q16c (g := (mkF m 140 #[.val (.long q0), .second, .val (.long q1), .second, .val (.long q2), .second, .val (.long q3), .second, .val (.long q4), .second, .val (.int p5), .val (.int (0 : Int32)), .val (.int (1 : Int32)), .val (.long q1), .second, .val (.long (0 : Int64)), .second, .val (.ref b12), .val (.int (0 : Int32)), .val (.int (1 : Int32)), .val (.int (0 : Int32))] [(.ref b12)])) rfl (by rw [hml]; rfl) (Steps.refl _) (argsL := []) (rest := []) (lenOf pd0_1 rfl) rfl (by show 2 * 0 + _ ≤ _; exact Nat.le_of_eq rfl) (hb hby at_140) (fun _ _ => ⟨rfl, rfl, (by decide : 1 + 0 ≤ _), (by decide : 8 + 0 ≤ _)⟩)
        dsimp only [Pt.U, Pt.locs, Pt.cells, Pt.slots] at X16 l16 y16 z16 st16 hQ16
        subst l16 y16 z16
        obtain ⟨rfl, N16q, e16⟩ := hQ16
        have N16 := Fr.app N13 N16q
        refine own_step (fun t k => st16.trans k) ?_
        show own_Ends p e below s _ _ _ (T16.setTop (mkF m 143 #[.val (.long q0), .second, .val (.long q1), .second, .val (.long q2), .second, .val (.long q3), .second, .val (.long q4), .second, .val (.int p5), .val (.int (0 : Int32)), .val (.int (1 : Int32)), .val (.long q1), .second, .val (.long (0 : Int64)), .second, .val (.ref b12), .val (.int (0 : Int32)), .val (.int (1 : Int32)), .val (.int (0 : Int32))] [(.int (f4_0 q1 q0 (0 : Int64)))]))
        refine own_step (fun t k => XS.iload X16.here hx rfl (hb hby at_143) rfl k) ?_
        show own_Ends p e below s _ _ _ (T16.setTop (mkF m 145 #[.val (.long q0), .second, .val (.long q1), .second, .val (.long q2), .second, .val (.long q3), .second, .val (.long q4), .second, .val (.int p5), .val (.int (0 : Int32)), .val (.int (1 : Int32)), .val (.long q1), .second, .val (.long (0 : Int64)), .second, .val (.ref b12), .val (.int (0 : Int32)), .val (.int (1 : Int32)), .val (.int (0 : Int32))] [(.int (0 : Int32)), (.int (f4_0 q1 q0 (0 : Int64)))]))
        refine own_step (fun t k => XS.icmpNo X16.here hx rfl (hb hby at_145) rfl (teq (show (f4_0 q1 q0 (0 : Int64)) = (0 : Int32) from by simp [f4_0, hc92_14])).2 k) ?_
        show own_Ends p e below s _ _ _ (T16.setTop (mkF m 148 #[.val (.long q0), .second, .val (.long q1), .second, .val (.long q2), .second, .val (.long q3), .second, .val (.long q4), .second, .val (.int p5), .val (.int (0 : Int32)), .val (.int (1 : Int32)), .val (.long q1), .second, .val (.long (0 : Int64)), .second, .val (.ref b12), .val (.int (0 : Int32)), .val (.int (1 : Int32)), .val (.int (0 : Int32))] []))
        refine own_step (fun t k => XS.iconst X16.here hx rfl (hb hby at_148) k) ?_
        show own_Ends p e below s _ _ _ (T16.setTop (mkF m 149 #[.val (.long q0), .second, .val (.long q1), .second, .val (.long q2), .second, .val (.long q3), .second, .val (.long q4), .second, .val (.int p5), .val (.int (0 : Int32)), .val (.int (1 : Int32)), .val (.long q1), .second, .val (.long (0 : Int64)), .second, .val (.ref b12), .val (.int (0 : Int32)), .val (.int (1 : Int32)), .val (.int (0 : Int32))] [(.int (1 : Int32))]))
        refine own_step (fun t k => XS.goto X16.here hx rfl (pc0 := 149) (pc' := 153) rfl (hb hby at_149) (by decide) (by decide) k) ?_
        show own_Ends p e below s _ _ _ (T16.setTop (mkF m 153 #[.val (.long q0), .second, .val (.long q1), .second, .val (.long q2), .second, .val (.long q3), .second, .val (.long q4), .second, .val (.int p5), .val (.int (0 : Int32)), .val (.int (1 : Int32)), .val (.long q1), .second, .val (.long (0 : Int64)), .second, .val (.ref b12), .val (.int (0 : Int32)), .val (.int (1 : Int32)), .val (.int (0 : Int32))] [(.int (1 : Int32))]))
        exact own_retN X16 hx hlk (t := .boolean) hret (by simp) (hb hby at_153) (w := (1 : Int32)) (by decide) ⟨rfl, N16⟩ (by decide) (by decide)
  · -- not (p5 &&& (1 : Int32)) = (0 : Int32)
    refine own_step (fun t k => XS.ifNo X0.here hx rfl (hb hby at_4) rfl ((if0 _ _).trans (feq hc4_1).1) k) ?_
    show own_Ends p e below s _ _ _ (s₁.setTop (mkF m 7 #[.val (.long q0), .second, .val (.long q1), .second, .val (.long q2), .second, .val (.long q3), .second, .val (.long q4), .second, .val (.int p5), .unset, .unset, .unset, .unset, .unset, .unset, .unset, .unset, .unset, .unset] []))
    refine own_step (fun t k => XS.iconst X0.here hx rfl (hb hby at_7) k) ?_
    show own_Ends p e below s _ _ _ (s₁.setTop (mkF m 8 #[.val (.long q0), .second, .val (.long q1), .second, .val (.long q2), .second, .val (.long q3), .second, .val (.long q4), .second, .val (.int p5), .unset, .unset, .unset, .unset, .unset, .unset, .unset, .unset, .unset, .unset] [(.int (1 : Int32))]))
    refine own_step (fun t k => XS.goto X0.here hx rfl (pc0 := 8) (pc' := 12) rfl (hb hby at_8) (by decide) (by decide) k) ?_
    show own_Ends p e below s _ _ _ (s₁.setTop (mkF m 12 #[.val (.long q0), .second, .val (.long q1), .second, .val (.long q2), .second, .val (.long q3), .second, .val (.long q4), .second, .val (.int p5), .unset, .unset, .unset, .unset, .unset, .unset, .unset, .unset, .unset, .unset] [(.int (1 : Int32))]))
    refine own_step (fun t k => XS.istore X0.here hx rfl (hb hby at_12) rfl (l' := #[.val (.long q0), .second, .val (.long q1), .second, .val (.long q2), .second, .val (.long q3), .second, .val (.long q4), .second, .val (.int p5), .val (.int (1 : Int32)), .unset, .unset, .unset, .unset, .unset, .unset, .unset, .unset, .unset]) rfl k) ?_
    show own_Ends p e below s _ _ _ (s₁.setTop (mkF m 14 #[.val (.long q0), .second, .val (.long q1), .second, .val (.long q2), .second, .val (.long q3), .second, .val (.long q4), .second, .val (.int p5), .val (.int (1 : Int32)), .unset, .unset, .unset, .unset, .unset, .unset, .unset, .unset, .unset] []))
    refine own_step (fun t k => XS.iload X0.here hx rfl (hb hby at_14) rfl k) ?_
    show own_Ends p e below s _ _ _ (s₁.setTop (mkF m 16 #[.val (.long q0), .second, .val (.long q1), .second, .val (.long q2), .second, .val (.long q3), .second, .val (.long q4), .second, .val (.int p5), .val (.int (1 : Int32)), .unset, .unset, .unset, .unset, .unset, .unset, .unset, .unset, .unset] [(.int p5)]))
    refine own_step (fun t k => XS.iconst X0.here hx rfl (hb hby at_16) k) ?_
    show own_Ends p e below s _ _ _ (s₁.setTop (mkF m 17 #[.val (.long q0), .second, .val (.long q1), .second, .val (.long q2), .second, .val (.long q3), .second, .val (.long q4), .second, .val (.int p5), .val (.int (1 : Int32)), .unset, .unset, .unset, .unset, .unset, .unset, .unset, .unset, .unset] [(.int (2 : Int32)), (.int p5)]))
    refine own_step (fun t k => XS.iand X0.here hx rfl (hb hby at_17) rfl k) ?_
    show own_Ends p e below s _ _ _ (s₁.setTop (mkF m 18 #[.val (.long q0), .second, .val (.long q1), .second, .val (.long q2), .second, .val (.long q3), .second, .val (.long q4), .second, .val (.int p5), .val (.int (1 : Int32)), .unset, .unset, .unset, .unset, .unset, .unset, .unset, .unset, .unset] [(.int (p5 &&& (2 : Int32)))]))
    by_cases hc18_17 : (p5 &&& (2 : Int32)) = (0 : Int32)
    · -- (p5 &&& (2 : Int32)) = (0 : Int32)
      refine own_step (fun t k => XS.ifYes X0.here hx rfl (pc0 := 18) (pc' := 25) rfl (hb hby at_18) rfl ((if0 _ _).trans (teq hc18_17).1) (by decide) (by decide) k) ?_
      show own_Ends p e below s _ _ _ (s₁.setTop (mkF m 25 #[.val (.long q0), .second, .val (.long q1), .second, .val (.long q2), .second, .val (.long q3), .second, .val (.long q4), .second, .val (.int p5), .val (.int (1 : Int32)), .unset, .unset, .unset, .unset, .unset, .unset, .unset, .unset, .unset] []))
      refine own_step (fun t k => XS.iconst X0.here hx rfl (hb hby at_25) k) ?_
      show own_Ends p e below s _ _ _ (s₁.setTop (mkF m 26 #[.val (.long q0), .second, .val (.long q1), .second, .val (.long q2), .second, .val (.long q3), .second, .val (.long q4), .second, .val (.int p5), .val (.int (1 : Int32)), .unset, .unset, .unset, .unset, .unset, .unset, .unset, .unset, .unset] [(.int (0 : Int32))]))
      refine own_step (fun t k => XS.istore X0.here hx rfl (hb hby at_26) rfl (l' := #[.val (.long q0), .second, .val (.long q1), .second, .val (.long q2), .second, .val (.long q3), .second, .val (.long q4), .second, .val (.int p5), .val (.int (1 : Int32)), .val (.int (0 : Int32)), .unset, .unset, .unset, .unset, .unset, .unset, .unset, .unset]) rfl k) ?_
      show own_Ends p e below s _ _ _ (s₁.setTop (mkF m 28 #[.val (.long q0), .second, .val (.long q1), .second, .val (.long q2), .second, .val (.long q3), .second, .val (.long q4), .second, .val (.int p5), .val (.int (1 : Int32)), .val (.int (0 : Int32)), .unset, .unset, .unset, .unset, .unset, .unset, .unset, .unset] []))
      refine own_step (fun t k => XS.iload X0.here hx rfl (hb hby at_28) rfl k) ?_
      show own_Ends p e below s _ _ _ (s₁.setTop (mkF m 30 #[.val (.long q0), .second, .val (.long q1), .second, .val (.long q2), .second, .val (.long q3), .second, .val (.long q4), .second, .val (.int p5), .val (.int (1 : Int32)), .val (.int (0 : Int32)), .unset, .unset, .unset, .unset, .unset, .unset, .unset, .unset] [(.int (1 : Int32))]))
      refine own_step (fun t k => XS.ifNo X0.here hx rfl (hb hby at_30) rfl ((if0 _ _).trans (feq (by decide : ¬ ((1 : Int32) = (0 : Int32)))).1) k) ?_
      show own_Ends p e below s _ _ _ (s₁.setTop (mkF m 33 #[.val (.long q0), .second, .val (.long q1), .second, .val (.long q2), .second, .val (.long q3), .second, .val (.long q4), .second, .val (.int p5), .val (.int (1 : Int32)), .val (.int (0 : Int32)), .unset, .unset, .unset, .unset, .unset, .unset, .unset, .unset] []))
      refine own_step (fun t k => XS.lloadN X0.here hx rfl (hb hby at_33) rfl k) ?_
      show own_Ends p e below s _ _ _ (s₁.setTop (mkF m 34 #[.val (.long q0), .second, .val (.long q1), .second, .val (.long q2), .second, .val (.long q3), .second, .val (.long q4), .second, .val (.int p5), .val (.int (1 : Int32)), .val (.int (0 : Int32)), .unset, .unset, .unset, .unset, .unset, .unset, .unset, .unset] [(.long q0)]))
      refine own_step (fun t k => XS.goto X0.here hx rfl (pc0 := 34) (pc' := 38) rfl (hb hby at_34) (by decide) (by decide) k) ?_
      show own_Ends p e below s _ _ _ (s₁.setTop (mkF m 38 #[.val (.long q0), .second, .val (.long q1), .second, .val (.long q2), .second, .val (.long q3), .second, .val (.long q4), .second, .val (.int p5), .val (.int (1 : Int32)), .val (.int (0 : Int32)), .unset, .unset, .unset, .unset, .unset, .unset, .unset, .unset] [(.long q0)]))
      refine own_step (fun t k => XS.lstore X0.here hx rfl (hb hby at_38) rfl (l' := #[.val (.long q0), .second, .val (.long q1), .second, .val (.long q2), .second, .val (.long q3), .second, .val (.long q4), .second, .val (.int p5), .val (.int (1 : Int32)), .val (.int (0 : Int32)), .val (.long q0), .second, .unset, .unset, .unset, .unset, .unset, .unset]) rfl k) ?_
      show own_Ends p e below s _ _ _ (s₁.setTop (mkF m 40 #[.val (.long q0), .second, .val (.long q1), .second, .val (.long q2), .second, .val (.long q3), .second, .val (.long q4), .second, .val (.int p5), .val (.int (1 : Int32)), .val (.int (0 : Int32)), .val (.long q0), .second, .unset, .unset, .unset, .unset, .unset, .unset] []))
      refine own_step (fun t k => XS.iload X0.here hx rfl (hb hby at_40) rfl k) ?_
      show own_Ends p e below s _ _ _ (s₁.setTop (mkF m 42 #[.val (.long q0), .second, .val (.long q1), .second, .val (.long q2), .second, .val (.long q3), .second, .val (.long q4), .second, .val (.int p5), .val (.int (1 : Int32)), .val (.int (0 : Int32)), .val (.long q0), .second, .unset, .unset, .unset, .unset, .unset, .unset] [(.int (0 : Int32))]))
      refine own_step (fun t k => XS.ifYes X0.here hx rfl (pc0 := 42) (pc' := 49) rfl (hb hby at_42) rfl ((if0 _ _).trans (teq (by decide : ((0 : Int32) = (0 : Int32)))).1) (by decide) (by decide) k) ?_
      show own_Ends p e below s _ _ _ (s₁.setTop (mkF m 49 #[.val (.long q0), .second, .val (.long q1), .second, .val (.long q2), .second, .val (.long q3), .second, .val (.long q4), .second, .val (.int p5), .val (.int (1 : Int32)), .val (.int (0 : Int32)), .val (.long q0), .second, .unset, .unset, .unset, .unset, .unset, .unset] []))
      refine own_step (fun t k => XS.lload X0.here hx rfl (hb hby at_49) rfl k) ?_
      show own_Ends p e below s _ _ _ (s₁.setTop (mkF m 51 #[.val (.long q0), .second, .val (.long q1), .second, .val (.long q2), .second, .val (.long q3), .second, .val (.long q4), .second, .val (.int p5), .val (.int (1 : Int32)), .val (.int (0 : Int32)), .val (.long q0), .second, .unset, .unset, .unset, .unset, .unset, .unset] [(.long q2)]))
      refine own_step (fun t k => XS.lstore X0.here hx rfl (hb hby at_51) rfl (l' := #[.val (.long q0), .second, .val (.long q1), .second, .val (.long q2), .second, .val (.long q3), .second, .val (.long q4), .second, .val (.int p5), .val (.int (1 : Int32)), .val (.int (0 : Int32)), .val (.long q0), .second, .val (.long q2), .second, .unset, .unset, .unset, .unset]) rfl k) ?_
      show own_Ends p e below s _ _ _ (s₁.setTop (mkF m 53 #[.val (.long q0), .second, .val (.long q1), .second, .val (.long q2), .second, .val (.long q3), .second, .val (.long q4), .second, .val (.int p5), .val (.int (1 : Int32)), .val (.int (0 : Int32)), .val (.long q0), .second, .val (.long q2), .second, .unset, .unset, .unset, .unset] []))
      obtain ⟨T18, h18, X18, e18, E18, A18, D18, -, st18⟩ := newO X0 hx hZ hown (hw _ (List.mem_of_getElem? (i := 0) rfl)) (hw _ (List.mem_of_getElem? (i := 1) rfl)) (hw _ (List.mem_of_getElem? (i := 2) rfl)) e0 (g := (mkF m 53 #[.val (.long q0), .second, .val (.long q1), .second, .val (.long q2), .second, .val (.long q3), .second, .val (.long q4), .second, .val (.int p5), .val (.int (1 : Int32)), .val (.int (0 : Int32)), .val (.long q0), .second, .val (.long q2), .second, .unset, .unset, .unset, .unset] [])) rfl (hb hby at_53) (by decide) (by decide)
      obtain ⟨b18, g18⟩ : ∃ z, z = h0.size := ⟨_, rfl⟩
      rw [← g18] at A18 D18 st18
      have gn_b18 : n0 ≤ b18 := Nat.le_trans Z0 (Nat.le_of_eq g18.symm)
      have Z18 : n0 ≤ h18.size := Nat.le_trans Z0 E18.1
      have F18_entries : Fld Z h18 b18 "com/example/hop_mutex/hopmutex/command/Simulation$Figures" "entries" "J" (.long (0 : Int64)) := D18 (Or.inr (hw _ (List.mem_of_getElem? (i := 15) rfl))) (ty := .long) (by decide)
      have F18_completed : Fld Z h18 b18 "com/example/hop_mutex/hopmutex/command/Simulation$Figures" "completed" "J" (.long (0 : Int64)) := D18 (Or.inr (hw _ (List.mem_of_getElem? (i := 17) rfl))) (ty := .long) (by decide)
      have F18_messages : Fld Z h18 b18 "com/example/hop_mutex/hopmutex/command/Simulation$Figures" "messages" "J" (.long (0 : Int64)) := D18 (Or.inr (hw _ (List.mem_of_getElem? (i := 19) rfl))) (ty := .long) (by decide)
      have F18_entryDelayMax : Fld Z h18 b18 "com/example/hop_mutex/hopmutex/command/Simulation$Figures" "entryDelayMax" "J" (.long (0 : Int64)) := D18 (Or.inr (hw _ (List.mem_of_getElem? (i := 21) rfl))) (ty := .long) (by decide)
      have F18_syncDelays : Fld Z h18 b18 "com/example/hop_mutex/hopmutex/command/Simulation$Figures" "syncDelays" "J" (.long (0 : Int64)) := D18 (Or.inr (hw _ (List.mem_of_getElem? (i := 23) rfl))) (ty := .long) (by decide)
      have F18_syncDelayMax : Fld Z h18 b18 "com/example/hop_mutex/hopmutex/command/Simulation$Figures" "syncDelayMax" "J" (.long (0 : Int64)) := D18 (Or.inr (hw _ (List.mem_of_getElem? (i := 25) rfl))) (ty := .long) (by decide)
      have F18_syncDelayTotal : Fld Z h18 b18 "com/example/hop_mutex/hopmutex/command/Simulation$Figures" "syncDelayTotal" "J" (.long (0 : Int64)) := D18 (Or.inr (hw _ (List.mem_of_getElem? (i := 27) rfl))) (ty := .long) (by decide)
      have F18_overlaps : Fld Z h18 b18 "com/example/hop_mutex/hopmutex/command/Simulation$Figures" "overlaps" "J" (.long (0 : Int64)) := D18 (Or.inr (hw _ (List.mem_of_getElem? (i := 29) rfl))) (ty := .long) (by decide)
      refine own_step st18 ?_
      show own_Ends p e below s _ _ _ (T18.setTop (mkF m 56 #[.val (.long q0), .second, .val (.long q1), .second, .val (.long q2), .second, .val (.long q3), .second, .val (.long q4), .second, .val (.int p5), .val (.int (1 : Int32)), .val (.int (0 : Int32)), .val (.long q0), .second, .val (.long q2), .second, .unset, .unset, .unset, .unset] [(.ref b18)]))
      refine own_step (fun t k => XS.dup X18.here hx rfl (hb hby at_56) rfl rfl k) ?_
      show own_Ends p e below s _ _ _ (T18.setTop (mkF m 57 #[.val (.long q0), .second, .val (.long q1), .second, .val (.long q2), .second, .val (.long q3), .second, .val (.long q4), .second, .val (.int p5), .val (.int (1 : Int32)), .val (.int (0 : Int32)), .val (.long q0), .second, .val (.long q2), .second, .unset, .unset, .unset, .unset] [(.ref b18), (.ref b18)]))
      refine own_step (fun t k => XS.lloadN X18.here hx rfl (hb hby at_57) rfl k) ?_
      show own_Ends p e below s _ _ _ (T18.setTop (mkF m 58 #[.val (.long q0), .second, .val (.long q1), .second, .val (.long q2), .second, .val (.long q3), .second, .val (.long q4), .second, .val (.int p5), .val (.int (1 : Int32)), .val (.int (0 : Int32)), .val (.long q0), .second, .val (.long q2), .second, .unset, .unset, .unset, .unset] [(.long q0), (.ref b18), (.ref b18)]))
      refine own_step (fun t k => XS.lload X18.here hx rfl (hb hby at_58) rfl k) ?_
      show own_Ends p e below s _ _ _ (T18.setTop (mkF m 60 #[.val (.long q0), .second, .val (.long q1), .second, .val (.long q2), .second, .val (.long q3), .second, .val (.long q4), .second, .val (.int p5), .val (.int (1 : Int32)), .val (.int (0 : Int32)), .val (.long q0), .second, .val (.long q2), .second, .unset, .unset, .unset, .unset] [(.long q0), (.long q0), (.ref b18), (.ref b18)]))
      refine own_step (fun t k => XS.lload X18.here hx rfl (hb hby at_60) rfl k) ?_
      show own_Ends p e below s _ _ _ (T18.setTop (mkF m 62 #[.val (.long q0), .second, .val (.long q1), .second, .val (.long q2), .second, .val (.long q3), .second, .val (.long q4), .second, .val (.int p5), .val (.int (1 : Int32)), .val (.int (0 : Int32)), .val (.long q0), .second, .val (.long q2), .second, .unset, .unset, .unset, .unset] [(.long q3), (.long q0), (.long q0), (.ref b18), (.ref b18)]))
      refine own_step (fun t k => XS.lload X18.here hx rfl (hb hby at_62) rfl k) ?_
      show own_Ends p e below s _ _ _ (T18.setTop (mkF m 64 #[.val (.long q0), .second, .val (.long q1), .second, .val (.long q2), .second, .val (.long q3), .second, .val (.long q4), .second, .val (.int p5), .val (.int (1 : Int32)), .val (.int (0 : Int32)), .val (.long q0), .second, .val (.long q2), .second, .unset, .unset, .unset, .unset] [(.long q4), (.long q3), (.long q0), (.long q0), (.ref b18), (.ref b18)]))
      refine own_step (fun t k => XS.lload X18.here hx rfl (hb hby at_64) rfl k) ?_
      show own_Ends p e below s _ _ _ (T18.setTop (mkF m 66 #[.val (.long q0), .second, .val (.long q1), .second, .val (.long q2), .second, .val (.long q3), .second, .val (.long q4), .second, .val (.int p5), .val (.int (1 : Int32)), .val (.int (0 : Int32)), .val (.long q0), .second, .val (.long q2), .second, .unset, .unset, .unset, .unset] [(.long q3), (.long q4), (.long q3), (.long q0), (.long q0), (.ref b18), (.ref b18)]))
      refine own_step (fun t k => XS.lload X18.here hx rfl (hb hby at_66) rfl k) ?_
      show own_Ends p e below s _ _ _ (T18.setTop (mkF m 68 #[.val (.long q0), .second, .val (.long q1), .second, .val (.long q2), .second, .val (.long q3), .second, .val (.long q4), .second, .val (.int p5), .val (.int (1 : Int32)), .val (.int (0 : Int32)), .val (.long q0), .second, .val (.long q2), .second, .unset, .unset, .unset, .unset] [(.long q4), (.long q3), (.long q4), (.long q3), (.long q0), (.long q0), (.ref b18), (.ref b18)]))
      refine own_step (fun t k => XS.lxor X18.here hx rfl (hb hby at_68) rfl k) ?_
      show own_Ends p e below s _ _ _ (T18.setTop (mkF m 69 #[.val (.long q0), .second, .val (.long q1), .second, .val (.long q2), .second, .val (.long q3), .second, .val (.long q4), .second, .val (.int p5), .val (.int (1 : Int32)), .val (.int (0 : Int32)), .val (.long q0), .second, .val (.long q2), .second, .unset, .unset, .unset, .unset] [(.long (q3 ^^^ q4)), (.long q4), (.long q3), (.long q0), (.long q0), (.ref b18), (.ref b18)]))
      refine own_step (fun t k => XS.iload X18.here hx rfl (hb hby at_69) rfl k) ?_
      show own_Ends p e below s _ _ _ (T18.setTop (mkF m 71 #[.val (.long q0), .second, .val (.long q1), .second, .val (.long q2), .second, .val (.long q3), .second, .val (.long q4), .second, .val (.int p5), .val (.int (1 : Int32)), .val (.int (0 : Int32)), .val (.long q0), .second, .val (.long q2), .second, .unset, .unset, .unset, .unset] [(.int p5), (.long (q3 ^^^ q4)), (.long q4), (.long q3), (.long q0), (.long q0), (.ref b18), (.ref b18)]))
      refine own_step (fun t k => XS.i2l X18.here hx rfl (hb hby at_71) rfl k) ?_
      show own_Ends p e below s _ _ _ (T18.setTop (mkF m 72 #[.val (.long q0), .second, .val (.long q1), .second, .val (.long q2), .second, .val (.long q3), .second, .val (.long q4), .second, .val (.int p5), .val (.int (1 : Int32)), .val (.int (0 : Int32)), .val (.long q0), .second, .val (.long q2), .second, .unset, .unset, .unset, .unset] [(.long (p5.toInt64)), (.long (q3 ^^^ q4)), (.long q4), (.long q3), (.long q0), (.long q0), (.ref b18), (.ref b18)]))
      refine own_step (fun t k => XS.lload X18.here hx rfl (hb hby at_72) rfl k) ?_
      show own_Ends p e below s _ _ _ (T18.setTop (mkF m 74 #[.val (.long q0), .second, .val (.long q1), .second, .val (.long q2), .second, .val (.long q3), .second, .val (.long q4), .second, .val (.int p5), .val (.int (1 : Int32)), .val (.int (0 : Int32)), .val (.long q0), .second, .val (.long q2), .second, .unset, .unset, .unset, .unset] [(.long q4), (.long (p5.toInt64)), (.long (q3 ^^^ q4)), (.long q4), (.long q3), (.long q0), (.long q0), (.ref b18), (.ref b18)]))
      refine own_step (fun t k => XS.lload X18.here hx rfl (hb hby at_74) rfl k) ?_
      show own_Ends p e below s _ _ _ (T18.setTop (mkF m 76 #[.val (.long q0), .second, .val (.long q1), .second, .val (.long q2), .second, .val (.long q3), .second, .val (.long q4), .second, .val (.int p5), .val (.int (1 : Int32)), .val (.int (0 : Int32)), .val (.long q0), .second, .val (.long q2), .second, .unset, .unset, .unset, .unset] [(.long q3), (.long q4), (.long (p5.toInt64)), (.long (q3 ^^^ q4)), (.long q4), (.long q3), (.long q0), (.long q0), (.ref b18), (.ref b18)]))
      refine own_step (fun t k => XS.lsub X18.here hx rfl (hb hby at_76) rfl k) ?_
      show own_Ends p e below s _ _ _ (T18.setTop (mkF m 77 #[.val (.long q0), .second, .val (.long q1), .second, .val (.long q2), .second, .val (.long q3), .second, .val (.long q4), .second, .val (.int p5), .val (.int (1 : Int32)), .val (.int (0 : Int32)), .val (.long q0), .second, .val (.long q2), .second, .unset, .unset, .unset, .unset] [(.long (q4 - q3)), (.long (p5.toInt64)), (.long (q3 ^^^ q4)), (.long q4), (.long q3), (.long q0), (.long q0), (.ref b18), (.ref b18)]))
      refine own_step (fun t k => XS.lload X18.here hx rfl (hb hby at_77) rfl k) ?_
      show own_Ends p e below s _ _ _ (T18.setTop (mkF m 79 #[.val (.long q0), .second, .val (.long q1), .second, .val (.long q2), .second, .val (.long q3), .second, .val (.long q4), .second, .val (.int p5), .val (.int (1 : Int32)), .val (.int (0 : Int32)), .val (.long q0), .second, .val (.long q2), .second, .unset, .unset, .unset, .unset] [(.long q2), (.long (q4 - q3)), (.long (p5.toInt64)), (.long (q3 ^^^ q4)), (.long q4), (.long q3), (.long q0), (.long q0), (.ref b18), (.ref b18)]))
      obtain ⟨_, _, ⟨T19, L19, k19, n19⟩, -, X19, ⟨Lc19, hQ19, l19, y19, z19⟩, st19⟩ := X18.specialBack hx (y := (⟨"com/example/hop_mutex/hopmutex/command/Simulation$Figures", "<init>", "(JJJJJJJJ)V"⟩ : MethodName)) rfl hown (mvT hZ (hw _ (List.mem_of_getElem? (i := 3) rfl))) (mvT hZ (hw _ (List.mem_of_getElem? (i := 4) rfl))) (mvT hZ (hw _ (List.mem_of_getElem? (i := 5) rfl))) (by decide) (backOf (W := 1) (rm1 l Z a0 hw [] b18 q0 q0 q3 q4 (q3 ^^^ q4) (p5.toInt64) (q4 - q3) q2  h18 n0 Z18 gn_b18 A18 F18_entries F18_completed F18_messages F18_entryDelayMax F18_syncDelays F18_syncDelayMax F18_syncDelayTotal F18_overlaps) hZ (hw _ (List.mem_of_getElem? (i := 5) rfl)) (hw _ (List.mem_of_getElem? (i := 2) rfl)) (by decide) (by decide)) (g := (mkF m 79 #[.val (.long q0), .second, .val (.long q1), .second, .val (.long q2), .second, .val (.long q3), .second, .val (.long q4), .second, .val (.int p5), .val (.int (1 : Int32)), .val (.int (0 : Int32)), .val (.long q0), .second, .val (.long q2), .second, .unset, .unset, .unset, .unset] [(.long q2), (.long (q4 - q3)), (.long (p5.toInt64)), (.long (q3 ^^^ q4)), (.long q4), (.long q3), (.long q0), (.long q0), (.ref b18), (.ref b18)])) rfl (by rw [hml]; rfl) (Steps.refl _) (a := b18) (argsL := [(.long q0), (.long q0), (.long q3), (.long q4), (.long (q3 ^^^ q4)), (.long (p5.toInt64)), (.long (q4 - q3)), (.long q2)]) (rest := [(.ref b18)]) (lenOf pd0_0 rfl) rfl (by show 2 * 0 + _ ≤ _; exact Nat.le_of_eq rfl) (hb hby at_79) (fun _ _ => ⟨rfl, e18, (by decide : 1 + 0 ≤ _), (by decide : 8 + 0 ≤ _)⟩)
      dsimp only [Pt.U, Pt.locs, Pt.cells, Pt.slots] at X19 l19 y19 z19 st19 hQ19
      subst l19 y19 z19
      obtain ⟨rfl, N19q, Z19, K19, E19_0, F19_entries, F19_completed, F19_messages, F19_entryDelayMax, F19_syncDelays, F19_syncDelayMax, F19_syncDelayTotal, F19_overlaps⟩ := hQ19
      have N19 := Fr.app N0 N19q
      refine own_step (fun t k => st19.trans k) ?_
      show own_Ends p e below s _ _ _ (T19.setTop (mkF m 82 #[.val (.long q0), .second, .val (.long q1), .second, .val (.long q2), .second, .val (.long q3), .second, .val (.long q4), .second, .val (.int p5), .val (.int (1 : Int32)), .val (.int (0 : Int32)), .val (.long q0), .second, .val (.long q2), .second, .unset, .unset, .unset, .unset] [(.ref b18)]))
      refine own_step (fun t k => XS.astore X19.here hx rfl (hb hby at_82) rfl rfl (l' := #[.val (.long q0), .second, .val (.long q1), .second, .val (.long q2), .second, .val (.long q3), .second, .val (.long q4), .second, .val (.int p5), .val (.int (1 : Int32)), .val (.int (0 : Int32)), .val (.long q0), .second, .val (.long q2), .second, .val (.ref b18), .unset, .unset, .unset]) rfl k) ?_
      show own_Ends p e below s _ _ _ (T19.setTop (mkF m 84 #[.val (.long q0), .second, .val (.long q1), .second, .val (.long q2), .second, .val (.long q3), .second, .val (.long q4), .second, .val (.int p5), .val (.int (1 : Int32)), .val (.int (0 : Int32)), .val (.long q0), .second, .val (.long q2), .second, .val (.ref b18), .unset, .unset, .unset] []))
      refine own_step (fun t k => XS.iload X19.here hx rfl (hb hby at_84) rfl k) ?_
      show own_Ends p e below s _ _ _ (T19.setTop (mkF m 86 #[.val (.long q0), .second, .val (.long q1), .second, .val (.long q2), .second, .val (.long q3), .second, .val (.long q4), .second, .val (.int p5), .val (.int (1 : Int32)), .val (.int (0 : Int32)), .val (.long q0), .second, .val (.long q2), .second, .val (.ref b18), .unset, .unset, .unset] [(.int (1 : Int32))]))
      refine own_step (fun t k => XS.ifYes X19.here hx rfl (pc0 := 86) (pc' := 95) rfl (hb hby at_86) rfl ((if0 _ _).trans (feq (by decide : ¬ ((1 : Int32) = (0 : Int32)))).2) (by decide) (by decide) k) ?_
      show own_Ends p e below s _ _ _ (T19.setTop (mkF m 95 #[.val (.long q0), .second, .val (.long q1), .second, .val (.long q2), .second, .val (.long q3), .second, .val (.long q4), .second, .val (.int p5), .val (.int (1 : Int32)), .val (.int (0 : Int32)), .val (.long q0), .second, .val (.long q2), .second, .val (.ref b18), .unset, .unset, .unset] []))
      refine own_step (fun t k => XS.iconst X19.here hx rfl (hb hby at_95) k) ?_
      show own_Ends p e below s _ _ _ (T19.setTop (mkF m 96 #[.val (.long q0), .second, .val (.long q1), .second, .val (.long q2), .second, .val (.long q3), .second, .val (.long q4), .second, .val (.int p5), .val (.int (1 : Int32)), .val (.int (0 : Int32)), .val (.long q0), .second, .val (.long q2), .second, .val (.ref b18), .unset, .unset, .unset] [(.int (1 : Int32))]))
      refine own_step (fun t k => XS.goto X19.here hx rfl (pc0 := 96) (pc' := 100) rfl (hb hby at_96) (by decide) (by decide) k) ?_
      show own_Ends p e below s _ _ _ (T19.setTop (mkF m 100 #[.val (.long q0), .second, .val (.long q1), .second, .val (.long q2), .second, .val (.long q3), .second, .val (.long q4), .second, .val (.int p5), .val (.int (1 : Int32)), .val (.int (0 : Int32)), .val (.long q0), .second, .val (.long q2), .second, .val (.ref b18), .unset, .unset, .unset] [(.int (1 : Int32))]))
      refine own_step (fun t k => XS.istore X19.here hx rfl (hb hby at_100) rfl (l' := #[.val (.long q0), .second, .val (.long q1), .second, .val (.long q2), .second, .val (.long q3), .second, .val (.long q4), .second, .val (.int p5), .val (.int (1 : Int32)), .val (.int (0 : Int32)), .val (.long q0), .second, .val (.long q2), .second, .val (.ref b18), .val (.int (1 : Int32)), .unset, .unset]) rfl k) ?_
      show own_Ends p e below s _ _ _ (T19.setTop (mkF m 102 #[.val (.long q0), .second, .val (.long q1), .second, .val (.long q2), .second, .val (.long q3), .second, .val (.long q4), .second, .val (.int p5), .val (.int (1 : Int32)), .val (.int (0 : Int32)), .val (.long q0), .second, .val (.long q2), .second, .val (.ref b18), .val (.int (1 : Int32)), .unset, .unset] []))
      refine own_step (fun t k => XS.iload X19.here hx rfl (hb hby at_102) rfl k) ?_
      show own_Ends p e below s _ _ _ (T19.setTop (mkF m 104 #[.val (.long q0), .second, .val (.long q1), .second, .val (.long q2), .second, .val (.long q3), .second, .val (.long q4), .second, .val (.int p5), .val (.int (1 : Int32)), .val (.int (0 : Int32)), .val (.long q0), .second, .val (.long q2), .second, .val (.ref b18), .val (.int (1 : Int32)), .unset, .unset] [(.int (0 : Int32))]))
      refine own_step (fun t k => XS.ifNo X19.here hx rfl (hb hby at_104) rfl ((if0 _ _).trans (teq (by decide : ((0 : Int32) = (0 : Int32)))).2) k) ?_
      show own_Ends p e below s _ _ _ (T19.setTop (mkF m 107 #[.val (.long q0), .second, .val (.long q1), .second, .val (.long q2), .second, .val (.long q3), .second, .val (.long q4), .second, .val (.int p5), .val (.int (1 : Int32)), .val (.int (0 : Int32)), .val (.long q0), .second, .val (.long q2), .second, .val (.ref b18), .val (.int (1 : Int32)), .unset, .unset] []))
      refine own_step (fun t k => XS.lload X19.here hx rfl (hb hby at_107) rfl k) ?_
      show own_Ends p e below s _ _ _ (T19.setTop (mkF m 109 #[.val (.long q0), .second, .val (.long q1), .second, .val (.long q2), .second, .val (.long q3), .second, .val (.long q4), .second, .val (.int p5), .val (.int (1 : Int32)), .val (.int (0 : Int32)), .val (.long q0), .second, .val (.long q2), .second, .val (.ref b18), .val (.int (1 : Int32)), .unset, .unset] [(.long q2)]))
      refine own_step (fun t k => XS.lconst X19.here hx rfl (hb hby at_109) k) ?_
      show own_Ends p e below s _ _ _ (T19.setTop (mkF m 110 #[.val (.long q0), .second, .val (.long q1), .second, .val (.long q2), .second, .val (.long q3), .second, .val (.long q4), .second, .val (.int p5), .val (.int (1 : Int32)), .val (.int (0 : Int32)), .val (.long q0), .second, .val (.long q2), .second, .val (.ref b18), .val (.int (1 : Int32)), .unset, .unset] [(.long (0 : Int64)), (.long q2)]))
      refine own_step (fun t k => XS.lcmp X19.here hx rfl (hb hby at_110) rfl k) ?_
      show own_Ends p e below s _ _ _ (T19.setTop (mkF m 111 #[.val (.long q0), .second, .val (.long q1), .second, .val (.long q2), .second, .val (.long q3), .second, .val (.long q4), .second, .val (.int p5), .val (.int (1 : Int32)), .val (.int (0 : Int32)), .val (.long q0), .second, .val (.long q2), .second, .val (.ref b18), .val (.int (1 : Int32)), .unset, .unset] [(.int (lcmpW q2 (0 : Int64)))]))
      by_cases hc111_20 : q2 = (0 : Int64)
      · -- q2 = (0 : Int64)
        refine own_step (fun t k => XS.ifNo X19.here hx rfl (hb hby at_111) rfl ((if0 _ _).trans (teq ((lw_eq q2 (0 : Int64)).mpr hc111_20)).2) k) ?_
        show own_Ends p e below s _ _ _ (T19.setTop (mkF m 114 #[.val (.long q0), .second, .val (.long q1), .second, .val (.long q2), .second, .val (.long q3), .second, .val (.long q4), .second, .val (.int p5), .val (.int (1 : Int32)), .val (.int (0 : Int32)), .val (.long q0), .second, .val (.long q2), .second, .val (.ref b18), .val (.int (1 : Int32)), .unset, .unset] []))
        refine own_step (fun t k => XS.iconst X19.here hx rfl (hb hby at_114) k) ?_
        show own_Ends p e below s _ _ _ (T19.setTop (mkF m 115 #[.val (.long q0), .second, .val (.long q1), .second, .val (.long q2), .second, .val (.long q3), .second, .val (.long q4), .second, .val (.int p5), .val (.int (1 : Int32)), .val (.int (0 : Int32)), .val (.long q0), .second, .val (.long q2), .second, .val (.ref b18), .val (.int (1 : Int32)), .unset, .unset] [(.int (1 : Int32))]))
        refine own_step (fun t k => XS.goto X19.here hx rfl (pc0 := 115) (pc' := 119) rfl (hb hby at_115) (by decide) (by decide) k) ?_
        show own_Ends p e below s _ _ _ (T19.setTop (mkF m 119 #[.val (.long q0), .second, .val (.long q1), .second, .val (.long q2), .second, .val (.long q3), .second, .val (.long q4), .second, .val (.int p5), .val (.int (1 : Int32)), .val (.int (0 : Int32)), .val (.long q0), .second, .val (.long q2), .second, .val (.ref b18), .val (.int (1 : Int32)), .unset, .unset] [(.int (1 : Int32))]))
        refine own_step (fun t k => XS.istore X19.here hx rfl (hb hby at_119) rfl (l' := #[.val (.long q0), .second, .val (.long q1), .second, .val (.long q2), .second, .val (.long q3), .second, .val (.long q4), .second, .val (.int p5), .val (.int (1 : Int32)), .val (.int (0 : Int32)), .val (.long q0), .second, .val (.long q2), .second, .val (.ref b18), .val (.int (1 : Int32)), .val (.int (1 : Int32)), .unset]) rfl k) ?_
        show own_Ends p e below s _ _ _ (T19.setTop (mkF m 121 #[.val (.long q0), .second, .val (.long q1), .second, .val (.long q2), .second, .val (.long q3), .second, .val (.long q4), .second, .val (.int p5), .val (.int (1 : Int32)), .val (.int (0 : Int32)), .val (.long q0), .second, .val (.long q2), .second, .val (.ref b18), .val (.int (1 : Int32)), .val (.int (1 : Int32)), .unset] []))
        refine own_step (fun t k => XS.iload X19.here hx rfl (hb hby at_121) rfl k) ?_
        show own_Ends p e below s _ _ _ (T19.setTop (mkF m 123 #[.val (.long q0), .second, .val (.long q1), .second, .val (.long q2), .second, .val (.long q3), .second, .val (.long q4), .second, .val (.int p5), .val (.int (1 : Int32)), .val (.int (0 : Int32)), .val (.long q0), .second, .val (.long q2), .second, .val (.ref b18), .val (.int (1 : Int32)), .val (.int (1 : Int32)), .unset] [(.int (1 : Int32))]))
        refine own_step (fun t k => XS.ifNo X19.here hx rfl (hb hby at_123) rfl ((if0 _ _).trans (feq (by decide : ¬ ((1 : Int32) = (0 : Int32)))).1) k) ?_
        show own_Ends p e below s _ _ _ (T19.setTop (mkF m 126 #[.val (.long q0), .second, .val (.long q1), .second, .val (.long q2), .second, .val (.long q3), .second, .val (.long q4), .second, .val (.int p5), .val (.int (1 : Int32)), .val (.int (0 : Int32)), .val (.long q0), .second, .val (.long q2), .second, .val (.ref b18), .val (.int (1 : Int32)), .val (.int (1 : Int32)), .unset] []))
        refine own_step (fun t k => XS.iload X19.here hx rfl (hb hby at_126) rfl k) ?_
        show own_Ends p e below s _ _ _ (T19.setTop (mkF m 128 #[.val (.long q0), .second, .val (.long q1), .second, .val (.long q2), .second, .val (.long q3), .second, .val (.long q4), .second, .val (.int p5), .val (.int (1 : Int32)), .val (.int (0 : Int32)), .val (.long q0), .second, .val (.long q2), .second, .val (.ref b18), .val (.int (1 : Int32)), .val (.int (1 : Int32)), .unset] [(.int (1 : Int32))]))
        refine own_step (fun t k => XS.ifNo X19.here hx rfl (hb hby at_128) rfl ((if0 _ _).trans (feq (by decide : ¬ ((1 : Int32) = (0 : Int32)))).1) k) ?_
        show own_Ends p e below s _ _ _ (T19.setTop (mkF m 131 #[.val (.long q0), .second, .val (.long q1), .second, .val (.long q2), .second, .val (.long q3), .second, .val (.long q4), .second, .val (.int p5), .val (.int (1 : Int32)), .val (.int (0 : Int32)), .val (.long q0), .second, .val (.long q2), .second, .val (.ref b18), .val (.int (1 : Int32)), .val (.int (1 : Int32)), .unset] []))
        refine own_step (fun t k => XS.iconst X19.here hx rfl (hb hby at_131) k) ?_
        show own_Ends p e below s _ _ _ (T19.setTop (mkF m 132 #[.val (.long q0), .second, .val (.long q1), .second, .val (.long q2), .second, .val (.long q3), .second, .val (.long q4), .second, .val (.int p5), .val (.int (1 : Int32)), .val (.int (0 : Int32)), .val (.long q0), .second, .val (.long q2), .second, .val (.ref b18), .val (.int (1 : Int32)), .val (.int (1 : Int32)), .unset] [(.int (1 : Int32))]))
        refine own_step (fun t k => XS.goto X19.here hx rfl (pc0 := 132) (pc' := 136) rfl (hb hby at_132) (by decide) (by decide) k) ?_
        show own_Ends p e below s _ _ _ (T19.setTop (mkF m 136 #[.val (.long q0), .second, .val (.long q1), .second, .val (.long q2), .second, .val (.long q3), .second, .val (.long q4), .second, .val (.int p5), .val (.int (1 : Int32)), .val (.int (0 : Int32)), .val (.long q0), .second, .val (.long q2), .second, .val (.ref b18), .val (.int (1 : Int32)), .val (.int (1 : Int32)), .unset] [(.int (1 : Int32))]))
        refine own_step (fun t k => XS.istore X19.here hx rfl (hb hby at_136) rfl (l' := #[.val (.long q0), .second, .val (.long q1), .second, .val (.long q2), .second, .val (.long q3), .second, .val (.long q4), .second, .val (.int p5), .val (.int (1 : Int32)), .val (.int (0 : Int32)), .val (.long q0), .second, .val (.long q2), .second, .val (.ref b18), .val (.int (1 : Int32)), .val (.int (1 : Int32)), .val (.int (1 : Int32))]) rfl k) ?_
        show own_Ends p e below s _ _ _ (T19.setTop (mkF m 138 #[.val (.long q0), .second, .val (.long q1), .second, .val (.long q2), .second, .val (.long q3), .second, .val (.long q4), .second, .val (.int p5), .val (.int (1 : Int32)), .val (.int (0 : Int32)), .val (.long q0), .second, .val (.long q2), .second, .val (.ref b18), .val (.int (1 : Int32)), .val (.int (1 : Int32)), .val (.int (1 : Int32))] []))
        refine own_step (fun t k => XS.aload X19.here hx rfl (hb hby at_138) rfl rfl k) ?_
        show own_Ends p e below s _ _ _ (T19.setTop (mkF m 140 #[.val (.long q0), .second, .val (.long q1), .second, .val (.long q2), .second, .val (.long q3), .second, .val (.long q4), .second, .val (.int p5), .val (.int (1 : Int32)), .val (.int (0 : Int32)), .val (.long q0), .second, .val (.long q2), .second, .val (.ref b18), .val (.int (1 : Int32)), .val (.int (1 : Int32)), .val (.int (1 : Int32))] [(.ref b18)]))
        obtain ⟨cq21, kq21, q21a, q21b, q21c⟩ := isOf hZ rfl E19_0
        obtain ⟨_, _, ⟨T21, L21, k21, n21⟩, -, X21, ⟨Lc21, hQ21, l21, y21, z21⟩, st21⟩ := X19.virtualBack hx (y := (⟨"com/example/hop_mutex/hopmutex/command/Simulation$Figures", "succeeded", "()Z"⟩ : MethodName)) (z := (⟨"com/example/hop_mutex/hopmutex/command/Simulation$Figures", "succeeded", "()Z"⟩ : MethodName)) hown (mvT hZ (hw _ (List.mem_of_getElem? (i := 30) rfl))) (mvT hZ (hw _ (List.mem_of_getElem? (i := 31) rfl))) (notFace_of_selects (args := #[]) (mvT hZ (hw _ (List.mem_of_getElem? (i := 33) rfl)))) (mvT hZ (hw _ (List.mem_of_getElem? (i := 33) rfl))) (mvT hZ (hw _ (List.mem_of_getElem? (i := 32) rfl))) (by decide) (backOf (W := 0) (rm4 l Z a0 hw [] b18 q0 q0 q2 T19.heap n0 F19_completed F19_entries F19_overlaps ) hZ (hw _ (List.mem_of_getElem? (i := 34) rfl)) (hw _ (List.mem_of_getElem? (i := 2) rfl)) (by decide) (by decide)) q21a q21c (g := (mkF m 140 #[.val (.long q0), .second, .val (.long q1), .second, .val (.long q2), .second, .val (.long q3), .second, .val (.long q4), .second, .val (.int p5), .val (.int (1 : Int32)), .val (.int (0 : Int32)), .val (.long q0), .second, .val (.long q2), .second, .val (.ref b18), .val (.int (1 : Int32)), .val (.int (1 : Int32)), .val (.int (1 : Int32))] [(.ref b18)])) rfl (by rw [hml]; rfl) (Steps.refl _) (argsL := []) (rest := []) (lenOf pd0_1 rfl) rfl (by show 2 * 0 + _ ≤ _; exact Nat.le_of_eq rfl) (hb hby at_140) (fun _ _ => ⟨rfl, rfl, (by decide : 1 + 0 ≤ _), (by decide : 8 + 0 ≤ _)⟩)
        dsimp only [Pt.U, Pt.locs, Pt.cells, Pt.slots] at X21 l21 y21 z21 st21 hQ21
        subst l21 y21 z21
        obtain ⟨rfl, N21q, e21⟩ := hQ21
        have N21 := Fr.app N19 N21q
        refine own_step (fun t k => st21.trans k) ?_
        show own_Ends p e below s _ _ _ (T21.setTop (mkF m 143 #[.val (.long q0), .second, .val (.long q1), .second, .val (.long q2), .second, .val (.long q3), .second, .val (.long q4), .second, .val (.int p5), .val (.int (1 : Int32)), .val (.int (0 : Int32)), .val (.long q0), .second, .val (.long q2), .second, .val (.ref b18), .val (.int (1 : Int32)), .val (.int (1 : Int32)), .val (.int (1 : Int32))] [(.int (f4_0 q0 q0 q2))]))
        refine own_step (fun t k => XS.iload X21.here hx rfl (hb hby at_143) rfl k) ?_
        show own_Ends p e below s _ _ _ (T21.setTop (mkF m 145 #[.val (.long q0), .second, .val (.long q1), .second, .val (.long q2), .second, .val (.long q3), .second, .val (.long q4), .second, .val (.int p5), .val (.int (1 : Int32)), .val (.int (0 : Int32)), .val (.long q0), .second, .val (.long q2), .second, .val (.ref b18), .val (.int (1 : Int32)), .val (.int (1 : Int32)), .val (.int (1 : Int32))] [(.int (1 : Int32)), (.int (f4_0 q0 q0 q2))]))
        refine own_step (fun t k => XS.icmpNo X21.here hx rfl (hb hby at_145) rfl (teq (show (f4_0 q0 q0 q2) = (1 : Int32) from by simp [f4_0, hc111_20])).2 k) ?_
        show own_Ends p e below s _ _ _ (T21.setTop (mkF m 148 #[.val (.long q0), .second, .val (.long q1), .second, .val (.long q2), .second, .val (.long q3), .second, .val (.long q4), .second, .val (.int p5), .val (.int (1 : Int32)), .val (.int (0 : Int32)), .val (.long q0), .second, .val (.long q2), .second, .val (.ref b18), .val (.int (1 : Int32)), .val (.int (1 : Int32)), .val (.int (1 : Int32))] []))
        refine own_step (fun t k => XS.iconst X21.here hx rfl (hb hby at_148) k) ?_
        show own_Ends p e below s _ _ _ (T21.setTop (mkF m 149 #[.val (.long q0), .second, .val (.long q1), .second, .val (.long q2), .second, .val (.long q3), .second, .val (.long q4), .second, .val (.int p5), .val (.int (1 : Int32)), .val (.int (0 : Int32)), .val (.long q0), .second, .val (.long q2), .second, .val (.ref b18), .val (.int (1 : Int32)), .val (.int (1 : Int32)), .val (.int (1 : Int32))] [(.int (1 : Int32))]))
        refine own_step (fun t k => XS.goto X21.here hx rfl (pc0 := 149) (pc' := 153) rfl (hb hby at_149) (by decide) (by decide) k) ?_
        show own_Ends p e below s _ _ _ (T21.setTop (mkF m 153 #[.val (.long q0), .second, .val (.long q1), .second, .val (.long q2), .second, .val (.long q3), .second, .val (.long q4), .second, .val (.int p5), .val (.int (1 : Int32)), .val (.int (0 : Int32)), .val (.long q0), .second, .val (.long q2), .second, .val (.ref b18), .val (.int (1 : Int32)), .val (.int (1 : Int32)), .val (.int (1 : Int32))] [(.int (1 : Int32))]))
        exact own_retN X21 hx hlk (t := .boolean) hret (by simp) (hb hby at_153) (w := (1 : Int32)) (by decide) ⟨rfl, N21⟩ (by decide) (by decide)
      · -- not q2 = (0 : Int64)
        refine own_step (fun t k => XS.ifYes X19.here hx rfl (pc0 := 111) (pc' := 118) rfl (hb hby at_111) rfl ((if0 _ _).trans (feq (fun q => hc111_20 ((lw_eq q2 (0 : Int64)).mp q))).2) (by decide) (by decide) k) ?_
        show own_Ends p e below s _ _ _ (T19.setTop (mkF m 118 #[.val (.long q0), .second, .val (.long q1), .second, .val (.long q2), .second, .val (.long q3), .second, .val (.long q4), .second, .val (.int p5), .val (.int (1 : Int32)), .val (.int (0 : Int32)), .val (.long q0), .second, .val (.long q2), .second, .val (.ref b18), .val (.int (1 : Int32)), .unset, .unset] []))
        refine own_step (fun t k => XS.iconst X19.here hx rfl (hb hby at_118) k) ?_
        show own_Ends p e below s _ _ _ (T19.setTop (mkF m 119 #[.val (.long q0), .second, .val (.long q1), .second, .val (.long q2), .second, .val (.long q3), .second, .val (.long q4), .second, .val (.int p5), .val (.int (1 : Int32)), .val (.int (0 : Int32)), .val (.long q0), .second, .val (.long q2), .second, .val (.ref b18), .val (.int (1 : Int32)), .unset, .unset] [(.int (0 : Int32))]))
        refine own_step (fun t k => XS.istore X19.here hx rfl (hb hby at_119) rfl (l' := #[.val (.long q0), .second, .val (.long q1), .second, .val (.long q2), .second, .val (.long q3), .second, .val (.long q4), .second, .val (.int p5), .val (.int (1 : Int32)), .val (.int (0 : Int32)), .val (.long q0), .second, .val (.long q2), .second, .val (.ref b18), .val (.int (1 : Int32)), .val (.int (0 : Int32)), .unset]) rfl k) ?_
        show own_Ends p e below s _ _ _ (T19.setTop (mkF m 121 #[.val (.long q0), .second, .val (.long q1), .second, .val (.long q2), .second, .val (.long q3), .second, .val (.long q4), .second, .val (.int p5), .val (.int (1 : Int32)), .val (.int (0 : Int32)), .val (.long q0), .second, .val (.long q2), .second, .val (.ref b18), .val (.int (1 : Int32)), .val (.int (0 : Int32)), .unset] []))
        refine own_step (fun t k => XS.iload X19.here hx rfl (hb hby at_121) rfl k) ?_
        show own_Ends p e below s _ _ _ (T19.setTop (mkF m 123 #[.val (.long q0), .second, .val (.long q1), .second, .val (.long q2), .second, .val (.long q3), .second, .val (.long q4), .second, .val (.int p5), .val (.int (1 : Int32)), .val (.int (0 : Int32)), .val (.long q0), .second, .val (.long q2), .second, .val (.ref b18), .val (.int (1 : Int32)), .val (.int (0 : Int32)), .unset] [(.int (1 : Int32))]))
        refine own_step (fun t k => XS.ifNo X19.here hx rfl (hb hby at_123) rfl ((if0 _ _).trans (feq (by decide : ¬ ((1 : Int32) = (0 : Int32)))).1) k) ?_
        show own_Ends p e below s _ _ _ (T19.setTop (mkF m 126 #[.val (.long q0), .second, .val (.long q1), .second, .val (.long q2), .second, .val (.long q3), .second, .val (.long q4), .second, .val (.int p5), .val (.int (1 : Int32)), .val (.int (0 : Int32)), .val (.long q0), .second, .val (.long q2), .second, .val (.ref b18), .val (.int (1 : Int32)), .val (.int (0 : Int32)), .unset] []))
        refine own_step (fun t k => XS.iload X19.here hx rfl (hb hby at_126) rfl k) ?_
        show own_Ends p e below s _ _ _ (T19.setTop (mkF m 128 #[.val (.long q0), .second, .val (.long q1), .second, .val (.long q2), .second, .val (.long q3), .second, .val (.long q4), .second, .val (.int p5), .val (.int (1 : Int32)), .val (.int (0 : Int32)), .val (.long q0), .second, .val (.long q2), .second, .val (.ref b18), .val (.int (1 : Int32)), .val (.int (0 : Int32)), .unset] [(.int (0 : Int32))]))
        refine own_step (fun t k => XS.ifYes X19.here hx rfl (pc0 := 128) (pc' := 135) rfl (hb hby at_128) rfl ((if0 _ _).trans (teq (by decide : ((0 : Int32) = (0 : Int32)))).1) (by decide) (by decide) k) ?_
        show own_Ends p e below s _ _ _ (T19.setTop (mkF m 135 #[.val (.long q0), .second, .val (.long q1), .second, .val (.long q2), .second, .val (.long q3), .second, .val (.long q4), .second, .val (.int p5), .val (.int (1 : Int32)), .val (.int (0 : Int32)), .val (.long q0), .second, .val (.long q2), .second, .val (.ref b18), .val (.int (1 : Int32)), .val (.int (0 : Int32)), .unset] []))
        refine own_step (fun t k => XS.iconst X19.here hx rfl (hb hby at_135) k) ?_
        show own_Ends p e below s _ _ _ (T19.setTop (mkF m 136 #[.val (.long q0), .second, .val (.long q1), .second, .val (.long q2), .second, .val (.long q3), .second, .val (.long q4), .second, .val (.int p5), .val (.int (1 : Int32)), .val (.int (0 : Int32)), .val (.long q0), .second, .val (.long q2), .second, .val (.ref b18), .val (.int (1 : Int32)), .val (.int (0 : Int32)), .unset] [(.int (0 : Int32))]))
        refine own_step (fun t k => XS.istore X19.here hx rfl (hb hby at_136) rfl (l' := #[.val (.long q0), .second, .val (.long q1), .second, .val (.long q2), .second, .val (.long q3), .second, .val (.long q4), .second, .val (.int p5), .val (.int (1 : Int32)), .val (.int (0 : Int32)), .val (.long q0), .second, .val (.long q2), .second, .val (.ref b18), .val (.int (1 : Int32)), .val (.int (0 : Int32)), .val (.int (0 : Int32))]) rfl k) ?_
        show own_Ends p e below s _ _ _ (T19.setTop (mkF m 138 #[.val (.long q0), .second, .val (.long q1), .second, .val (.long q2), .second, .val (.long q3), .second, .val (.long q4), .second, .val (.int p5), .val (.int (1 : Int32)), .val (.int (0 : Int32)), .val (.long q0), .second, .val (.long q2), .second, .val (.ref b18), .val (.int (1 : Int32)), .val (.int (0 : Int32)), .val (.int (0 : Int32))] []))
        refine own_step (fun t k => XS.aload X19.here hx rfl (hb hby at_138) rfl rfl k) ?_
        show own_Ends p e below s _ _ _ (T19.setTop (mkF m 140 #[.val (.long q0), .second, .val (.long q1), .second, .val (.long q2), .second, .val (.long q3), .second, .val (.long q4), .second, .val (.int p5), .val (.int (1 : Int32)), .val (.int (0 : Int32)), .val (.long q0), .second, .val (.long q2), .second, .val (.ref b18), .val (.int (1 : Int32)), .val (.int (0 : Int32)), .val (.int (0 : Int32))] [(.ref b18)]))
        obtain ⟨cq22, kq22, q22a, q22b, q22c⟩ := isOf hZ rfl E19_0
        obtain ⟨_, _, ⟨T22, L22, k22, n22⟩, -, X22, ⟨Lc22, hQ22, l22, y22, z22⟩, st22⟩ := X19.virtualBack hx (y := (⟨"com/example/hop_mutex/hopmutex/command/Simulation$Figures", "succeeded", "()Z"⟩ : MethodName)) (z := (⟨"com/example/hop_mutex/hopmutex/command/Simulation$Figures", "succeeded", "()Z"⟩ : MethodName)) hown (mvT hZ (hw _ (List.mem_of_getElem? (i := 30) rfl))) (mvT hZ (hw _ (List.mem_of_getElem? (i := 31) rfl))) (notFace_of_selects (args := #[]) (mvT hZ (hw _ (List.mem_of_getElem? (i := 33) rfl)))) (mvT hZ (hw _ (List.mem_of_getElem? (i := 33) rfl))) (mvT hZ (hw _ (List.mem_of_getElem? (i := 32) rfl))) (by decide) (backOf (W := 0) (rm4 l Z a0 hw [] b18 q0 q0 q2 T19.heap n0 F19_completed F19_entries F19_overlaps ) hZ (hw _ (List.mem_of_getElem? (i := 34) rfl)) (hw _ (List.mem_of_getElem? (i := 2) rfl)) (by decide) (by decide)) q22a q22c (g := (mkF m 140 #[.val (.long q0), .second, .val (.long q1), .second, .val (.long q2), .second, .val (.long q3), .second, .val (.long q4), .second, .val (.int p5), .val (.int (1 : Int32)), .val (.int (0 : Int32)), .val (.long q0), .second, .val (.long q2), .second, .val (.ref b18), .val (.int (1 : Int32)), .val (.int (0 : Int32)), .val (.int (0 : Int32))] [(.ref b18)])) rfl (by rw [hml]; rfl) (Steps.refl _) (argsL := []) (rest := []) (lenOf pd0_1 rfl) rfl (by show 2 * 0 + _ ≤ _; exact Nat.le_of_eq rfl) (hb hby at_140) (fun _ _ => ⟨rfl, rfl, (by decide : 1 + 0 ≤ _), (by decide : 8 + 0 ≤ _)⟩)
        dsimp only [Pt.U, Pt.locs, Pt.cells, Pt.slots] at X22 l22 y22 z22 st22 hQ22
        subst l22 y22 z22
        obtain ⟨rfl, N22q, e22⟩ := hQ22
        have N22 := Fr.app N19 N22q
        refine own_step (fun t k => st22.trans k) ?_
        show own_Ends p e below s _ _ _ (T22.setTop (mkF m 143 #[.val (.long q0), .second, .val (.long q1), .second, .val (.long q2), .second, .val (.long q3), .second, .val (.long q4), .second, .val (.int p5), .val (.int (1 : Int32)), .val (.int (0 : Int32)), .val (.long q0), .second, .val (.long q2), .second, .val (.ref b18), .val (.int (1 : Int32)), .val (.int (0 : Int32)), .val (.int (0 : Int32))] [(.int (f4_0 q0 q0 q2))]))
        refine own_step (fun t k => XS.iload X22.here hx rfl (hb hby at_143) rfl k) ?_
        show own_Ends p e below s _ _ _ (T22.setTop (mkF m 145 #[.val (.long q0), .second, .val (.long q1), .second, .val (.long q2), .second, .val (.long q3), .second, .val (.long q4), .second, .val (.int p5), .val (.int (1 : Int32)), .val (.int (0 : Int32)), .val (.long q0), .second, .val (.long q2), .second, .val (.ref b18), .val (.int (1 : Int32)), .val (.int (0 : Int32)), .val (.int (0 : Int32))] [(.int (0 : Int32)), (.int (f4_0 q0 q0 q2))]))
        refine own_step (fun t k => XS.icmpNo X22.here hx rfl (hb hby at_145) rfl (teq (show (f4_0 q0 q0 q2) = (0 : Int32) from by simp [f4_0, hc111_20])).2 k) ?_
        show own_Ends p e below s _ _ _ (T22.setTop (mkF m 148 #[.val (.long q0), .second, .val (.long q1), .second, .val (.long q2), .second, .val (.long q3), .second, .val (.long q4), .second, .val (.int p5), .val (.int (1 : Int32)), .val (.int (0 : Int32)), .val (.long q0), .second, .val (.long q2), .second, .val (.ref b18), .val (.int (1 : Int32)), .val (.int (0 : Int32)), .val (.int (0 : Int32))] []))
        refine own_step (fun t k => XS.iconst X22.here hx rfl (hb hby at_148) k) ?_
        show own_Ends p e below s _ _ _ (T22.setTop (mkF m 149 #[.val (.long q0), .second, .val (.long q1), .second, .val (.long q2), .second, .val (.long q3), .second, .val (.long q4), .second, .val (.int p5), .val (.int (1 : Int32)), .val (.int (0 : Int32)), .val (.long q0), .second, .val (.long q2), .second, .val (.ref b18), .val (.int (1 : Int32)), .val (.int (0 : Int32)), .val (.int (0 : Int32))] [(.int (1 : Int32))]))
        refine own_step (fun t k => XS.goto X22.here hx rfl (pc0 := 149) (pc' := 153) rfl (hb hby at_149) (by decide) (by decide) k) ?_
        show own_Ends p e below s _ _ _ (T22.setTop (mkF m 153 #[.val (.long q0), .second, .val (.long q1), .second, .val (.long q2), .second, .val (.long q3), .second, .val (.long q4), .second, .val (.int p5), .val (.int (1 : Int32)), .val (.int (0 : Int32)), .val (.long q0), .second, .val (.long q2), .second, .val (.ref b18), .val (.int (1 : Int32)), .val (.int (0 : Int32)), .val (.int (0 : Int32))] [(.int (1 : Int32))]))
        exact own_retN X22 hx hlk (t := .boolean) hret (by simp) (hb hby at_153) (w := (1 : Int32)) (by decide) ⟨rfl, N22⟩ (by decide) (by decide)
    · -- not (p5 &&& (2 : Int32)) = (0 : Int32)
      refine own_step (fun t k => XS.ifNo X0.here hx rfl (hb hby at_18) rfl ((if0 _ _).trans (feq hc18_17).1) k) ?_
      show own_Ends p e below s _ _ _ (s₁.setTop (mkF m 21 #[.val (.long q0), .second, .val (.long q1), .second, .val (.long q2), .second, .val (.long q3), .second, .val (.long q4), .second, .val (.int p5), .val (.int (1 : Int32)), .unset, .unset, .unset, .unset, .unset, .unset, .unset, .unset, .unset] []))
      refine own_step (fun t k => XS.iconst X0.here hx rfl (hb hby at_21) k) ?_
      show own_Ends p e below s _ _ _ (s₁.setTop (mkF m 22 #[.val (.long q0), .second, .val (.long q1), .second, .val (.long q2), .second, .val (.long q3), .second, .val (.long q4), .second, .val (.int p5), .val (.int (1 : Int32)), .unset, .unset, .unset, .unset, .unset, .unset, .unset, .unset, .unset] [(.int (1 : Int32))]))
      refine own_step (fun t k => XS.goto X0.here hx rfl (pc0 := 22) (pc' := 26) rfl (hb hby at_22) (by decide) (by decide) k) ?_
      show own_Ends p e below s _ _ _ (s₁.setTop (mkF m 26 #[.val (.long q0), .second, .val (.long q1), .second, .val (.long q2), .second, .val (.long q3), .second, .val (.long q4), .second, .val (.int p5), .val (.int (1 : Int32)), .unset, .unset, .unset, .unset, .unset, .unset, .unset, .unset, .unset] [(.int (1 : Int32))]))
      refine own_step (fun t k => XS.istore X0.here hx rfl (hb hby at_26) rfl (l' := #[.val (.long q0), .second, .val (.long q1), .second, .val (.long q2), .second, .val (.long q3), .second, .val (.long q4), .second, .val (.int p5), .val (.int (1 : Int32)), .val (.int (1 : Int32)), .unset, .unset, .unset, .unset, .unset, .unset, .unset, .unset]) rfl k) ?_
      show own_Ends p e below s _ _ _ (s₁.setTop (mkF m 28 #[.val (.long q0), .second, .val (.long q1), .second, .val (.long q2), .second, .val (.long q3), .second, .val (.long q4), .second, .val (.int p5), .val (.int (1 : Int32)), .val (.int (1 : Int32)), .unset, .unset, .unset, .unset, .unset, .unset, .unset, .unset] []))
      refine own_step (fun t k => XS.iload X0.here hx rfl (hb hby at_28) rfl k) ?_
      show own_Ends p e below s _ _ _ (s₁.setTop (mkF m 30 #[.val (.long q0), .second, .val (.long q1), .second, .val (.long q2), .second, .val (.long q3), .second, .val (.long q4), .second, .val (.int p5), .val (.int (1 : Int32)), .val (.int (1 : Int32)), .unset, .unset, .unset, .unset, .unset, .unset, .unset, .unset] [(.int (1 : Int32))]))
      refine own_step (fun t k => XS.ifNo X0.here hx rfl (hb hby at_30) rfl ((if0 _ _).trans (feq (by decide : ¬ ((1 : Int32) = (0 : Int32)))).1) k) ?_
      show own_Ends p e below s _ _ _ (s₁.setTop (mkF m 33 #[.val (.long q0), .second, .val (.long q1), .second, .val (.long q2), .second, .val (.long q3), .second, .val (.long q4), .second, .val (.int p5), .val (.int (1 : Int32)), .val (.int (1 : Int32)), .unset, .unset, .unset, .unset, .unset, .unset, .unset, .unset] []))
      refine own_step (fun t k => XS.lloadN X0.here hx rfl (hb hby at_33) rfl k) ?_
      show own_Ends p e below s _ _ _ (s₁.setTop (mkF m 34 #[.val (.long q0), .second, .val (.long q1), .second, .val (.long q2), .second, .val (.long q3), .second, .val (.long q4), .second, .val (.int p5), .val (.int (1 : Int32)), .val (.int (1 : Int32)), .unset, .unset, .unset, .unset, .unset, .unset, .unset, .unset] [(.long q0)]))
      refine own_step (fun t k => XS.goto X0.here hx rfl (pc0 := 34) (pc' := 38) rfl (hb hby at_34) (by decide) (by decide) k) ?_
      show own_Ends p e below s _ _ _ (s₁.setTop (mkF m 38 #[.val (.long q0), .second, .val (.long q1), .second, .val (.long q2), .second, .val (.long q3), .second, .val (.long q4), .second, .val (.int p5), .val (.int (1 : Int32)), .val (.int (1 : Int32)), .unset, .unset, .unset, .unset, .unset, .unset, .unset, .unset] [(.long q0)]))
      refine own_step (fun t k => XS.lstore X0.here hx rfl (hb hby at_38) rfl (l' := #[.val (.long q0), .second, .val (.long q1), .second, .val (.long q2), .second, .val (.long q3), .second, .val (.long q4), .second, .val (.int p5), .val (.int (1 : Int32)), .val (.int (1 : Int32)), .val (.long q0), .second, .unset, .unset, .unset, .unset, .unset, .unset]) rfl k) ?_
      show own_Ends p e below s _ _ _ (s₁.setTop (mkF m 40 #[.val (.long q0), .second, .val (.long q1), .second, .val (.long q2), .second, .val (.long q3), .second, .val (.long q4), .second, .val (.int p5), .val (.int (1 : Int32)), .val (.int (1 : Int32)), .val (.long q0), .second, .unset, .unset, .unset, .unset, .unset, .unset] []))
      refine own_step (fun t k => XS.iload X0.here hx rfl (hb hby at_40) rfl k) ?_
      show own_Ends p e below s _ _ _ (s₁.setTop (mkF m 42 #[.val (.long q0), .second, .val (.long q1), .second, .val (.long q2), .second, .val (.long q3), .second, .val (.long q4), .second, .val (.int p5), .val (.int (1 : Int32)), .val (.int (1 : Int32)), .val (.long q0), .second, .unset, .unset, .unset, .unset, .unset, .unset] [(.int (1 : Int32))]))
      refine own_step (fun t k => XS.ifNo X0.here hx rfl (hb hby at_42) rfl ((if0 _ _).trans (feq (by decide : ¬ ((1 : Int32) = (0 : Int32)))).1) k) ?_
      show own_Ends p e below s _ _ _ (s₁.setTop (mkF m 45 #[.val (.long q0), .second, .val (.long q1), .second, .val (.long q2), .second, .val (.long q3), .second, .val (.long q4), .second, .val (.int p5), .val (.int (1 : Int32)), .val (.int (1 : Int32)), .val (.long q0), .second, .unset, .unset, .unset, .unset, .unset, .unset] []))
      refine own_step (fun t k => XS.lconst X0.here hx rfl (hb hby at_45) k) ?_
      show own_Ends p e below s _ _ _ (s₁.setTop (mkF m 46 #[.val (.long q0), .second, .val (.long q1), .second, .val (.long q2), .second, .val (.long q3), .second, .val (.long q4), .second, .val (.int p5), .val (.int (1 : Int32)), .val (.int (1 : Int32)), .val (.long q0), .second, .unset, .unset, .unset, .unset, .unset, .unset] [(.long (0 : Int64))]))
      refine own_step (fun t k => XS.goto X0.here hx rfl (pc0 := 46) (pc' := 51) rfl (hb hby at_46) (by decide) (by decide) k) ?_
      show own_Ends p e below s _ _ _ (s₁.setTop (mkF m 51 #[.val (.long q0), .second, .val (.long q1), .second, .val (.long q2), .second, .val (.long q3), .second, .val (.long q4), .second, .val (.int p5), .val (.int (1 : Int32)), .val (.int (1 : Int32)), .val (.long q0), .second, .unset, .unset, .unset, .unset, .unset, .unset] [(.long (0 : Int64))]))
      refine own_step (fun t k => XS.lstore X0.here hx rfl (hb hby at_51) rfl (l' := #[.val (.long q0), .second, .val (.long q1), .second, .val (.long q2), .second, .val (.long q3), .second, .val (.long q4), .second, .val (.int p5), .val (.int (1 : Int32)), .val (.int (1 : Int32)), .val (.long q0), .second, .val (.long (0 : Int64)), .second, .unset, .unset, .unset, .unset]) rfl k) ?_
      show own_Ends p e below s _ _ _ (s₁.setTop (mkF m 53 #[.val (.long q0), .second, .val (.long q1), .second, .val (.long q2), .second, .val (.long q3), .second, .val (.long q4), .second, .val (.int p5), .val (.int (1 : Int32)), .val (.int (1 : Int32)), .val (.long q0), .second, .val (.long (0 : Int64)), .second, .unset, .unset, .unset, .unset] []))
      obtain ⟨T23, h23, X23, e23, E23, A23, D23, -, st23⟩ := newO X0 hx hZ hown (hw _ (List.mem_of_getElem? (i := 0) rfl)) (hw _ (List.mem_of_getElem? (i := 1) rfl)) (hw _ (List.mem_of_getElem? (i := 2) rfl)) e0 (g := (mkF m 53 #[.val (.long q0), .second, .val (.long q1), .second, .val (.long q2), .second, .val (.long q3), .second, .val (.long q4), .second, .val (.int p5), .val (.int (1 : Int32)), .val (.int (1 : Int32)), .val (.long q0), .second, .val (.long (0 : Int64)), .second, .unset, .unset, .unset, .unset] [])) rfl (hb hby at_53) (by decide) (by decide)
      obtain ⟨b23, g23⟩ : ∃ z, z = h0.size := ⟨_, rfl⟩
      rw [← g23] at A23 D23 st23
      have gn_b23 : n0 ≤ b23 := Nat.le_trans Z0 (Nat.le_of_eq g23.symm)
      have Z23 : n0 ≤ h23.size := Nat.le_trans Z0 E23.1
      have F23_entries : Fld Z h23 b23 "com/example/hop_mutex/hopmutex/command/Simulation$Figures" "entries" "J" (.long (0 : Int64)) := D23 (Or.inr (hw _ (List.mem_of_getElem? (i := 15) rfl))) (ty := .long) (by decide)
      have F23_completed : Fld Z h23 b23 "com/example/hop_mutex/hopmutex/command/Simulation$Figures" "completed" "J" (.long (0 : Int64)) := D23 (Or.inr (hw _ (List.mem_of_getElem? (i := 17) rfl))) (ty := .long) (by decide)
      have F23_messages : Fld Z h23 b23 "com/example/hop_mutex/hopmutex/command/Simulation$Figures" "messages" "J" (.long (0 : Int64)) := D23 (Or.inr (hw _ (List.mem_of_getElem? (i := 19) rfl))) (ty := .long) (by decide)
      have F23_entryDelayMax : Fld Z h23 b23 "com/example/hop_mutex/hopmutex/command/Simulation$Figures" "entryDelayMax" "J" (.long (0 : Int64)) := D23 (Or.inr (hw _ (List.mem_of_getElem? (i := 21) rfl))) (ty := .long) (by decide)
      have F23_syncDelays : Fld Z h23 b23 "com/example/hop_mutex/hopmutex/command/Simulation$Figures" "syncDelays" "J" (.long (0 : Int64)) := D23 (Or.inr (hw _ (List.mem_of_getElem? (i := 23) rfl))) (ty := .long) (by decide)
      have F23_syncDelayMax : Fld Z h23 b23 "com/example/hop_mutex/hopmutex/command/Simulation$Figures" "syncDelayMax" "J" (.long (0 : Int64)) := D23 (Or.inr (hw _ (List.mem_of_getElem? (i := 25) rfl))) (ty := .long) (by decide)
      have F23_syncDelayTotal : Fld Z h23 b23 "com/example/hop_mutex/hopmutex/command/Simulation$Figures" "syncDelayTotal" "J" (.long (0 : Int64)) := D23 (Or.inr (hw _ (List.mem_of_getElem? (i := 27) rfl))) (ty := .long) (by decide)
      have F23_overlaps : Fld Z h23 b23 "com/example/hop_mutex/hopmutex/command/Simulation$Figures" "overlaps" "J" (.long (0 : Int64)) := D23 (Or.inr (hw _ (List.mem_of_getElem? (i := 29) rfl))) (ty := .long) (by decide)
      refine own_step st23 ?_
      show own_Ends p e below s _ _ _ (T23.setTop (mkF m 56 #[.val (.long q0), .second, .val (.long q1), .second, .val (.long q2), .second, .val (.long q3), .second, .val (.long q4), .second, .val (.int p5), .val (.int (1 : Int32)), .val (.int (1 : Int32)), .val (.long q0), .second, .val (.long (0 : Int64)), .second, .unset, .unset, .unset, .unset] [(.ref b23)]))
      refine own_step (fun t k => XS.dup X23.here hx rfl (hb hby at_56) rfl rfl k) ?_
      show own_Ends p e below s _ _ _ (T23.setTop (mkF m 57 #[.val (.long q0), .second, .val (.long q1), .second, .val (.long q2), .second, .val (.long q3), .second, .val (.long q4), .second, .val (.int p5), .val (.int (1 : Int32)), .val (.int (1 : Int32)), .val (.long q0), .second, .val (.long (0 : Int64)), .second, .unset, .unset, .unset, .unset] [(.ref b23), (.ref b23)]))
      refine own_step (fun t k => XS.lloadN X23.here hx rfl (hb hby at_57) rfl k) ?_
      show own_Ends p e below s _ _ _ (T23.setTop (mkF m 58 #[.val (.long q0), .second, .val (.long q1), .second, .val (.long q2), .second, .val (.long q3), .second, .val (.long q4), .second, .val (.int p5), .val (.int (1 : Int32)), .val (.int (1 : Int32)), .val (.long q0), .second, .val (.long (0 : Int64)), .second, .unset, .unset, .unset, .unset] [(.long q0), (.ref b23), (.ref b23)]))
      refine own_step (fun t k => XS.lload X23.here hx rfl (hb hby at_58) rfl k) ?_
      show own_Ends p e below s _ _ _ (T23.setTop (mkF m 60 #[.val (.long q0), .second, .val (.long q1), .second, .val (.long q2), .second, .val (.long q3), .second, .val (.long q4), .second, .val (.int p5), .val (.int (1 : Int32)), .val (.int (1 : Int32)), .val (.long q0), .second, .val (.long (0 : Int64)), .second, .unset, .unset, .unset, .unset] [(.long q0), (.long q0), (.ref b23), (.ref b23)]))
      refine own_step (fun t k => XS.lload X23.here hx rfl (hb hby at_60) rfl k) ?_
      show own_Ends p e below s _ _ _ (T23.setTop (mkF m 62 #[.val (.long q0), .second, .val (.long q1), .second, .val (.long q2), .second, .val (.long q3), .second, .val (.long q4), .second, .val (.int p5), .val (.int (1 : Int32)), .val (.int (1 : Int32)), .val (.long q0), .second, .val (.long (0 : Int64)), .second, .unset, .unset, .unset, .unset] [(.long q3), (.long q0), (.long q0), (.ref b23), (.ref b23)]))
      refine own_step (fun t k => XS.lload X23.here hx rfl (hb hby at_62) rfl k) ?_
      show own_Ends p e below s _ _ _ (T23.setTop (mkF m 64 #[.val (.long q0), .second, .val (.long q1), .second, .val (.long q2), .second, .val (.long q3), .second, .val (.long q4), .second, .val (.int p5), .val (.int (1 : Int32)), .val (.int (1 : Int32)), .val (.long q0), .second, .val (.long (0 : Int64)), .second, .unset, .unset, .unset, .unset] [(.long q4), (.long q3), (.long q0), (.long q0), (.ref b23), (.ref b23)]))
      refine own_step (fun t k => XS.lload X23.here hx rfl (hb hby at_64) rfl k) ?_
      show own_Ends p e below s _ _ _ (T23.setTop (mkF m 66 #[.val (.long q0), .second, .val (.long q1), .second, .val (.long q2), .second, .val (.long q3), .second, .val (.long q4), .second, .val (.int p5), .val (.int (1 : Int32)), .val (.int (1 : Int32)), .val (.long q0), .second, .val (.long (0 : Int64)), .second, .unset, .unset, .unset, .unset] [(.long q3), (.long q4), (.long q3), (.long q0), (.long q0), (.ref b23), (.ref b23)]))
      refine own_step (fun t k => XS.lload X23.here hx rfl (hb hby at_66) rfl k) ?_
      show own_Ends p e below s _ _ _ (T23.setTop (mkF m 68 #[.val (.long q0), .second, .val (.long q1), .second, .val (.long q2), .second, .val (.long q3), .second, .val (.long q4), .second, .val (.int p5), .val (.int (1 : Int32)), .val (.int (1 : Int32)), .val (.long q0), .second, .val (.long (0 : Int64)), .second, .unset, .unset, .unset, .unset] [(.long q4), (.long q3), (.long q4), (.long q3), (.long q0), (.long q0), (.ref b23), (.ref b23)]))
      refine own_step (fun t k => XS.lxor X23.here hx rfl (hb hby at_68) rfl k) ?_
      show own_Ends p e below s _ _ _ (T23.setTop (mkF m 69 #[.val (.long q0), .second, .val (.long q1), .second, .val (.long q2), .second, .val (.long q3), .second, .val (.long q4), .second, .val (.int p5), .val (.int (1 : Int32)), .val (.int (1 : Int32)), .val (.long q0), .second, .val (.long (0 : Int64)), .second, .unset, .unset, .unset, .unset] [(.long (q3 ^^^ q4)), (.long q4), (.long q3), (.long q0), (.long q0), (.ref b23), (.ref b23)]))
      refine own_step (fun t k => XS.iload X23.here hx rfl (hb hby at_69) rfl k) ?_
      show own_Ends p e below s _ _ _ (T23.setTop (mkF m 71 #[.val (.long q0), .second, .val (.long q1), .second, .val (.long q2), .second, .val (.long q3), .second, .val (.long q4), .second, .val (.int p5), .val (.int (1 : Int32)), .val (.int (1 : Int32)), .val (.long q0), .second, .val (.long (0 : Int64)), .second, .unset, .unset, .unset, .unset] [(.int p5), (.long (q3 ^^^ q4)), (.long q4), (.long q3), (.long q0), (.long q0), (.ref b23), (.ref b23)]))
      refine own_step (fun t k => XS.i2l X23.here hx rfl (hb hby at_71) rfl k) ?_
      show own_Ends p e below s _ _ _ (T23.setTop (mkF m 72 #[.val (.long q0), .second, .val (.long q1), .second, .val (.long q2), .second, .val (.long q3), .second, .val (.long q4), .second, .val (.int p5), .val (.int (1 : Int32)), .val (.int (1 : Int32)), .val (.long q0), .second, .val (.long (0 : Int64)), .second, .unset, .unset, .unset, .unset] [(.long (p5.toInt64)), (.long (q3 ^^^ q4)), (.long q4), (.long q3), (.long q0), (.long q0), (.ref b23), (.ref b23)]))
      refine own_step (fun t k => XS.lload X23.here hx rfl (hb hby at_72) rfl k) ?_
      show own_Ends p e below s _ _ _ (T23.setTop (mkF m 74 #[.val (.long q0), .second, .val (.long q1), .second, .val (.long q2), .second, .val (.long q3), .second, .val (.long q4), .second, .val (.int p5), .val (.int (1 : Int32)), .val (.int (1 : Int32)), .val (.long q0), .second, .val (.long (0 : Int64)), .second, .unset, .unset, .unset, .unset] [(.long q4), (.long (p5.toInt64)), (.long (q3 ^^^ q4)), (.long q4), (.long q3), (.long q0), (.long q0), (.ref b23), (.ref b23)]))
      refine own_step (fun t k => XS.lload X23.here hx rfl (hb hby at_74) rfl k) ?_
      show own_Ends p e below s _ _ _ (T23.setTop (mkF m 76 #[.val (.long q0), .second, .val (.long q1), .second, .val (.long q2), .second, .val (.long q3), .second, .val (.long q4), .second, .val (.int p5), .val (.int (1 : Int32)), .val (.int (1 : Int32)), .val (.long q0), .second, .val (.long (0 : Int64)), .second, .unset, .unset, .unset, .unset] [(.long q3), (.long q4), (.long (p5.toInt64)), (.long (q3 ^^^ q4)), (.long q4), (.long q3), (.long q0), (.long q0), (.ref b23), (.ref b23)]))
      refine own_step (fun t k => XS.lsub X23.here hx rfl (hb hby at_76) rfl k) ?_
      show own_Ends p e below s _ _ _ (T23.setTop (mkF m 77 #[.val (.long q0), .second, .val (.long q1), .second, .val (.long q2), .second, .val (.long q3), .second, .val (.long q4), .second, .val (.int p5), .val (.int (1 : Int32)), .val (.int (1 : Int32)), .val (.long q0), .second, .val (.long (0 : Int64)), .second, .unset, .unset, .unset, .unset] [(.long (q4 - q3)), (.long (p5.toInt64)), (.long (q3 ^^^ q4)), (.long q4), (.long q3), (.long q0), (.long q0), (.ref b23), (.ref b23)]))
      refine own_step (fun t k => XS.lload X23.here hx rfl (hb hby at_77) rfl k) ?_
      show own_Ends p e below s _ _ _ (T23.setTop (mkF m 79 #[.val (.long q0), .second, .val (.long q1), .second, .val (.long q2), .second, .val (.long q3), .second, .val (.long q4), .second, .val (.int p5), .val (.int (1 : Int32)), .val (.int (1 : Int32)), .val (.long q0), .second, .val (.long (0 : Int64)), .second, .unset, .unset, .unset, .unset] [(.long (0 : Int64)), (.long (q4 - q3)), (.long (p5.toInt64)), (.long (q3 ^^^ q4)), (.long q4), (.long q3), (.long q0), (.long q0), (.ref b23), (.ref b23)]))
      obtain ⟨_, _, ⟨T24, L24, k24, n24⟩, -, X24, ⟨Lc24, hQ24, l24, y24, z24⟩, st24⟩ := X23.specialBack hx (y := (⟨"com/example/hop_mutex/hopmutex/command/Simulation$Figures", "<init>", "(JJJJJJJJ)V"⟩ : MethodName)) rfl hown (mvT hZ (hw _ (List.mem_of_getElem? (i := 3) rfl))) (mvT hZ (hw _ (List.mem_of_getElem? (i := 4) rfl))) (mvT hZ (hw _ (List.mem_of_getElem? (i := 5) rfl))) (by decide) (backOf (W := 1) (rm1 l Z a0 hw [] b23 q0 q0 q3 q4 (q3 ^^^ q4) (p5.toInt64) (q4 - q3) (0 : Int64)  h23 n0 Z23 gn_b23 A23 F23_entries F23_completed F23_messages F23_entryDelayMax F23_syncDelays F23_syncDelayMax F23_syncDelayTotal F23_overlaps) hZ (hw _ (List.mem_of_getElem? (i := 5) rfl)) (hw _ (List.mem_of_getElem? (i := 2) rfl)) (by decide) (by decide)) (g := (mkF m 79 #[.val (.long q0), .second, .val (.long q1), .second, .val (.long q2), .second, .val (.long q3), .second, .val (.long q4), .second, .val (.int p5), .val (.int (1 : Int32)), .val (.int (1 : Int32)), .val (.long q0), .second, .val (.long (0 : Int64)), .second, .unset, .unset, .unset, .unset] [(.long (0 : Int64)), (.long (q4 - q3)), (.long (p5.toInt64)), (.long (q3 ^^^ q4)), (.long q4), (.long q3), (.long q0), (.long q0), (.ref b23), (.ref b23)])) rfl (by rw [hml]; rfl) (Steps.refl _) (a := b23) (argsL := [(.long q0), (.long q0), (.long q3), (.long q4), (.long (q3 ^^^ q4)), (.long (p5.toInt64)), (.long (q4 - q3)), (.long (0 : Int64))]) (rest := [(.ref b23)]) (lenOf pd0_0 rfl) rfl (by show 2 * 0 + _ ≤ _; exact Nat.le_of_eq rfl) (hb hby at_79) (fun _ _ => ⟨rfl, e23, (by decide : 1 + 0 ≤ _), (by decide : 8 + 0 ≤ _)⟩)
      dsimp only [Pt.U, Pt.locs, Pt.cells, Pt.slots] at X24 l24 y24 z24 st24 hQ24
      subst l24 y24 z24
      obtain ⟨rfl, N24q, Z24, K24, E24_0, F24_entries, F24_completed, F24_messages, F24_entryDelayMax, F24_syncDelays, F24_syncDelayMax, F24_syncDelayTotal, F24_overlaps⟩ := hQ24
      have N24 := Fr.app N0 N24q
      refine own_step (fun t k => st24.trans k) ?_
      show own_Ends p e below s _ _ _ (T24.setTop (mkF m 82 #[.val (.long q0), .second, .val (.long q1), .second, .val (.long q2), .second, .val (.long q3), .second, .val (.long q4), .second, .val (.int p5), .val (.int (1 : Int32)), .val (.int (1 : Int32)), .val (.long q0), .second, .val (.long (0 : Int64)), .second, .unset, .unset, .unset, .unset] [(.ref b23)]))
      refine own_step (fun t k => XS.astore X24.here hx rfl (hb hby at_82) rfl rfl (l' := #[.val (.long q0), .second, .val (.long q1), .second, .val (.long q2), .second, .val (.long q3), .second, .val (.long q4), .second, .val (.int p5), .val (.int (1 : Int32)), .val (.int (1 : Int32)), .val (.long q0), .second, .val (.long (0 : Int64)), .second, .val (.ref b23), .unset, .unset, .unset]) rfl k) ?_
      show own_Ends p e below s _ _ _ (T24.setTop (mkF m 84 #[.val (.long q0), .second, .val (.long q1), .second, .val (.long q2), .second, .val (.long q3), .second, .val (.long q4), .second, .val (.int p5), .val (.int (1 : Int32)), .val (.int (1 : Int32)), .val (.long q0), .second, .val (.long (0 : Int64)), .second, .val (.ref b23), .unset, .unset, .unset] []))
      refine own_step (fun t k => XS.iload X24.here hx rfl (hb hby at_84) rfl k) ?_
      show own_Ends p e below s _ _ _ (T24.setTop (mkF m 86 #[.val (.long q0), .second, .val (.long q1), .second, .val (.long q2), .second, .val (.long q3), .second, .val (.long q4), .second, .val (.int p5), .val (.int (1 : Int32)), .val (.int (1 : Int32)), .val (.long q0), .second, .val (.long (0 : Int64)), .second, .val (.ref b23), .unset, .unset, .unset] [(.int (1 : Int32))]))
      refine own_step (fun t k => XS.ifYes X24.here hx rfl (pc0 := 86) (pc' := 95) rfl (hb hby at_86) rfl ((if0 _ _).trans (feq (by decide : ¬ ((1 : Int32) = (0 : Int32)))).2) (by decide) (by decide) k) ?_
      show own_Ends p e below s _ _ _ (T24.setTop (mkF m 95 #[.val (.long q0), .second, .val (.long q1), .second, .val (.long q2), .second, .val (.long q3), .second, .val (.long q4), .second, .val (.int p5), .val (.int (1 : Int32)), .val (.int (1 : Int32)), .val (.long q0), .second, .val (.long (0 : Int64)), .second, .val (.ref b23), .unset, .unset, .unset] []))
      refine own_step (fun t k => XS.iconst X24.here hx rfl (hb hby at_95) k) ?_
      show own_Ends p e below s _ _ _ (T24.setTop (mkF m 96 #[.val (.long q0), .second, .val (.long q1), .second, .val (.long q2), .second, .val (.long q3), .second, .val (.long q4), .second, .val (.int p5), .val (.int (1 : Int32)), .val (.int (1 : Int32)), .val (.long q0), .second, .val (.long (0 : Int64)), .second, .val (.ref b23), .unset, .unset, .unset] [(.int (1 : Int32))]))
      refine own_step (fun t k => XS.goto X24.here hx rfl (pc0 := 96) (pc' := 100) rfl (hb hby at_96) (by decide) (by decide) k) ?_
      show own_Ends p e below s _ _ _ (T24.setTop (mkF m 100 #[.val (.long q0), .second, .val (.long q1), .second, .val (.long q2), .second, .val (.long q3), .second, .val (.long q4), .second, .val (.int p5), .val (.int (1 : Int32)), .val (.int (1 : Int32)), .val (.long q0), .second, .val (.long (0 : Int64)), .second, .val (.ref b23), .unset, .unset, .unset] [(.int (1 : Int32))]))
      refine own_step (fun t k => XS.istore X24.here hx rfl (hb hby at_100) rfl (l' := #[.val (.long q0), .second, .val (.long q1), .second, .val (.long q2), .second, .val (.long q3), .second, .val (.long q4), .second, .val (.int p5), .val (.int (1 : Int32)), .val (.int (1 : Int32)), .val (.long q0), .second, .val (.long (0 : Int64)), .second, .val (.ref b23), .val (.int (1 : Int32)), .unset, .unset]) rfl k) ?_
      show own_Ends p e below s _ _ _ (T24.setTop (mkF m 102 #[.val (.long q0), .second, .val (.long q1), .second, .val (.long q2), .second, .val (.long q3), .second, .val (.long q4), .second, .val (.int p5), .val (.int (1 : Int32)), .val (.int (1 : Int32)), .val (.long q0), .second, .val (.long (0 : Int64)), .second, .val (.ref b23), .val (.int (1 : Int32)), .unset, .unset] []))
      refine own_step (fun t k => XS.iload X24.here hx rfl (hb hby at_102) rfl k) ?_
      show own_Ends p e below s _ _ _ (T24.setTop (mkF m 104 #[.val (.long q0), .second, .val (.long q1), .second, .val (.long q2), .second, .val (.long q3), .second, .val (.long q4), .second, .val (.int p5), .val (.int (1 : Int32)), .val (.int (1 : Int32)), .val (.long q0), .second, .val (.long (0 : Int64)), .second, .val (.ref b23), .val (.int (1 : Int32)), .unset, .unset] [(.int (1 : Int32))]))
      refine own_step (fun t k => XS.ifYes X24.here hx rfl (pc0 := 104) (pc' := 114) rfl (hb hby at_104) rfl ((if0 _ _).trans (feq (by decide : ¬ ((1 : Int32) = (0 : Int32)))).2) (by decide) (by decide) k) ?_
      show own_Ends p e below s _ _ _ (T24.setTop (mkF m 114 #[.val (.long q0), .second, .val (.long q1), .second, .val (.long q2), .second, .val (.long q3), .second, .val (.long q4), .second, .val (.int p5), .val (.int (1 : Int32)), .val (.int (1 : Int32)), .val (.long q0), .second, .val (.long (0 : Int64)), .second, .val (.ref b23), .val (.int (1 : Int32)), .unset, .unset] []))
      refine own_step (fun t k => XS.iconst X24.here hx rfl (hb hby at_114) k) ?_
      show own_Ends p e below s _ _ _ (T24.setTop (mkF m 115 #[.val (.long q0), .second, .val (.long q1), .second, .val (.long q2), .second, .val (.long q3), .second, .val (.long q4), .second, .val (.int p5), .val (.int (1 : Int32)), .val (.int (1 : Int32)), .val (.long q0), .second, .val (.long (0 : Int64)), .second, .val (.ref b23), .val (.int (1 : Int32)), .unset, .unset] [(.int (1 : Int32))]))
      refine own_step (fun t k => XS.goto X24.here hx rfl (pc0 := 115) (pc' := 119) rfl (hb hby at_115) (by decide) (by decide) k) ?_
      show own_Ends p e below s _ _ _ (T24.setTop (mkF m 119 #[.val (.long q0), .second, .val (.long q1), .second, .val (.long q2), .second, .val (.long q3), .second, .val (.long q4), .second, .val (.int p5), .val (.int (1 : Int32)), .val (.int (1 : Int32)), .val (.long q0), .second, .val (.long (0 : Int64)), .second, .val (.ref b23), .val (.int (1 : Int32)), .unset, .unset] [(.int (1 : Int32))]))
      refine own_step (fun t k => XS.istore X24.here hx rfl (hb hby at_119) rfl (l' := #[.val (.long q0), .second, .val (.long q1), .second, .val (.long q2), .second, .val (.long q3), .second, .val (.long q4), .second, .val (.int p5), .val (.int (1 : Int32)), .val (.int (1 : Int32)), .val (.long q0), .second, .val (.long (0 : Int64)), .second, .val (.ref b23), .val (.int (1 : Int32)), .val (.int (1 : Int32)), .unset]) rfl k) ?_
      show own_Ends p e below s _ _ _ (T24.setTop (mkF m 121 #[.val (.long q0), .second, .val (.long q1), .second, .val (.long q2), .second, .val (.long q3), .second, .val (.long q4), .second, .val (.int p5), .val (.int (1 : Int32)), .val (.int (1 : Int32)), .val (.long q0), .second, .val (.long (0 : Int64)), .second, .val (.ref b23), .val (.int (1 : Int32)), .val (.int (1 : Int32)), .unset] []))
      refine own_step (fun t k => XS.iload X24.here hx rfl (hb hby at_121) rfl k) ?_
      show own_Ends p e below s _ _ _ (T24.setTop (mkF m 123 #[.val (.long q0), .second, .val (.long q1), .second, .val (.long q2), .second, .val (.long q3), .second, .val (.long q4), .second, .val (.int p5), .val (.int (1 : Int32)), .val (.int (1 : Int32)), .val (.long q0), .second, .val (.long (0 : Int64)), .second, .val (.ref b23), .val (.int (1 : Int32)), .val (.int (1 : Int32)), .unset] [(.int (1 : Int32))]))
      refine own_step (fun t k => XS.ifNo X24.here hx rfl (hb hby at_123) rfl ((if0 _ _).trans (feq (by decide : ¬ ((1 : Int32) = (0 : Int32)))).1) k) ?_
      show own_Ends p e below s _ _ _ (T24.setTop (mkF m 126 #[.val (.long q0), .second, .val (.long q1), .second, .val (.long q2), .second, .val (.long q3), .second, .val (.long q4), .second, .val (.int p5), .val (.int (1 : Int32)), .val (.int (1 : Int32)), .val (.long q0), .second, .val (.long (0 : Int64)), .second, .val (.ref b23), .val (.int (1 : Int32)), .val (.int (1 : Int32)), .unset] []))
      refine own_step (fun t k => XS.iload X24.here hx rfl (hb hby at_126) rfl k) ?_
      show own_Ends p e below s _ _ _ (T24.setTop (mkF m 128 #[.val (.long q0), .second, .val (.long q1), .second, .val (.long q2), .second, .val (.long q3), .second, .val (.long q4), .second, .val (.int p5), .val (.int (1 : Int32)), .val (.int (1 : Int32)), .val (.long q0), .second, .val (.long (0 : Int64)), .second, .val (.ref b23), .val (.int (1 : Int32)), .val (.int (1 : Int32)), .unset] [(.int (1 : Int32))]))
      refine own_step (fun t k => XS.ifNo X24.here hx rfl (hb hby at_128) rfl ((if0 _ _).trans (feq (by decide : ¬ ((1 : Int32) = (0 : Int32)))).1) k) ?_
      show own_Ends p e below s _ _ _ (T24.setTop (mkF m 131 #[.val (.long q0), .second, .val (.long q1), .second, .val (.long q2), .second, .val (.long q3), .second, .val (.long q4), .second, .val (.int p5), .val (.int (1 : Int32)), .val (.int (1 : Int32)), .val (.long q0), .second, .val (.long (0 : Int64)), .second, .val (.ref b23), .val (.int (1 : Int32)), .val (.int (1 : Int32)), .unset] []))
      refine own_step (fun t k => XS.iconst X24.here hx rfl (hb hby at_131) k) ?_
      show own_Ends p e below s _ _ _ (T24.setTop (mkF m 132 #[.val (.long q0), .second, .val (.long q1), .second, .val (.long q2), .second, .val (.long q3), .second, .val (.long q4), .second, .val (.int p5), .val (.int (1 : Int32)), .val (.int (1 : Int32)), .val (.long q0), .second, .val (.long (0 : Int64)), .second, .val (.ref b23), .val (.int (1 : Int32)), .val (.int (1 : Int32)), .unset] [(.int (1 : Int32))]))
      refine own_step (fun t k => XS.goto X24.here hx rfl (pc0 := 132) (pc' := 136) rfl (hb hby at_132) (by decide) (by decide) k) ?_
      show own_Ends p e below s _ _ _ (T24.setTop (mkF m 136 #[.val (.long q0), .second, .val (.long q1), .second, .val (.long q2), .second, .val (.long q3), .second, .val (.long q4), .second, .val (.int p5), .val (.int (1 : Int32)), .val (.int (1 : Int32)), .val (.long q0), .second, .val (.long (0 : Int64)), .second, .val (.ref b23), .val (.int (1 : Int32)), .val (.int (1 : Int32)), .unset] [(.int (1 : Int32))]))
      refine own_step (fun t k => XS.istore X24.here hx rfl (hb hby at_136) rfl (l' := #[.val (.long q0), .second, .val (.long q1), .second, .val (.long q2), .second, .val (.long q3), .second, .val (.long q4), .second, .val (.int p5), .val (.int (1 : Int32)), .val (.int (1 : Int32)), .val (.long q0), .second, .val (.long (0 : Int64)), .second, .val (.ref b23), .val (.int (1 : Int32)), .val (.int (1 : Int32)), .val (.int (1 : Int32))]) rfl k) ?_
      show own_Ends p e below s _ _ _ (T24.setTop (mkF m 138 #[.val (.long q0), .second, .val (.long q1), .second, .val (.long q2), .second, .val (.long q3), .second, .val (.long q4), .second, .val (.int p5), .val (.int (1 : Int32)), .val (.int (1 : Int32)), .val (.long q0), .second, .val (.long (0 : Int64)), .second, .val (.ref b23), .val (.int (1 : Int32)), .val (.int (1 : Int32)), .val (.int (1 : Int32))] []))
      refine own_step (fun t k => XS.aload X24.here hx rfl (hb hby at_138) rfl rfl k) ?_
      show own_Ends p e below s _ _ _ (T24.setTop (mkF m 140 #[.val (.long q0), .second, .val (.long q1), .second, .val (.long q2), .second, .val (.long q3), .second, .val (.long q4), .second, .val (.int p5), .val (.int (1 : Int32)), .val (.int (1 : Int32)), .val (.long q0), .second, .val (.long (0 : Int64)), .second, .val (.ref b23), .val (.int (1 : Int32)), .val (.int (1 : Int32)), .val (.int (1 : Int32))] [(.ref b23)]))
      obtain ⟨cq25, kq25, q25a, q25b, q25c⟩ := isOf hZ rfl E24_0
      obtain ⟨_, _, ⟨T25, L25, k25, n25⟩, -, X25, ⟨Lc25, hQ25, l25, y25, z25⟩, st25⟩ := X24.virtualBack hx (y := (⟨"com/example/hop_mutex/hopmutex/command/Simulation$Figures", "succeeded", "()Z"⟩ : MethodName)) (z := (⟨"com/example/hop_mutex/hopmutex/command/Simulation$Figures", "succeeded", "()Z"⟩ : MethodName)) hown (mvT hZ (hw _ (List.mem_of_getElem? (i := 30) rfl))) (mvT hZ (hw _ (List.mem_of_getElem? (i := 31) rfl))) (notFace_of_selects (args := #[]) (mvT hZ (hw _ (List.mem_of_getElem? (i := 33) rfl)))) (mvT hZ (hw _ (List.mem_of_getElem? (i := 33) rfl))) (mvT hZ (hw _ (List.mem_of_getElem? (i := 32) rfl))) (by decide) (backOf (W := 0) (rm4 l Z a0 hw [] b23 q0 q0 (0 : Int64) T24.heap n0 F24_completed F24_entries F24_overlaps ) hZ (hw _ (List.mem_of_getElem? (i := 34) rfl)) (hw _ (List.mem_of_getElem? (i := 2) rfl)) (by decide) (by decide)) q25a q25c (g := (mkF m 140 #[.val (.long q0), .second, .val (.long q1), .second, .val (.long q2), .second, .val (.long q3), .second, .val (.long q4), .second, .val (.int p5), .val (.int (1 : Int32)), .val (.int (1 : Int32)), .val (.long q0), .second, .val (.long (0 : Int64)), .second, .val (.ref b23), .val (.int (1 : Int32)), .val (.int (1 : Int32)), .val (.int (1 : Int32))] [(.ref b23)])) rfl (by rw [hml]; rfl) (Steps.refl _) (argsL := []) (rest := []) (lenOf pd0_1 rfl) rfl (by show 2 * 0 + _ ≤ _; exact Nat.le_of_eq rfl) (hb hby at_140) (fun _ _ => ⟨rfl, rfl, (by decide : 1 + 0 ≤ _), (by decide : 8 + 0 ≤ _)⟩)
      dsimp only [Pt.U, Pt.locs, Pt.cells, Pt.slots] at X25 l25 y25 z25 st25 hQ25
      subst l25 y25 z25
      obtain ⟨rfl, N25q, e25⟩ := hQ25
      have N25 := Fr.app N24 N25q
      refine own_step (fun t k => st25.trans k) ?_
      show own_Ends p e below s _ _ _ (T25.setTop (mkF m 143 #[.val (.long q0), .second, .val (.long q1), .second, .val (.long q2), .second, .val (.long q3), .second, .val (.long q4), .second, .val (.int p5), .val (.int (1 : Int32)), .val (.int (1 : Int32)), .val (.long q0), .second, .val (.long (0 : Int64)), .second, .val (.ref b23), .val (.int (1 : Int32)), .val (.int (1 : Int32)), .val (.int (1 : Int32))] [(.int (f4_0 q0 q0 (0 : Int64)))]))
      refine own_step (fun t k => XS.iload X25.here hx rfl (hb hby at_143) rfl k) ?_
      show own_Ends p e below s _ _ _ (T25.setTop (mkF m 145 #[.val (.long q0), .second, .val (.long q1), .second, .val (.long q2), .second, .val (.long q3), .second, .val (.long q4), .second, .val (.int p5), .val (.int (1 : Int32)), .val (.int (1 : Int32)), .val (.long q0), .second, .val (.long (0 : Int64)), .second, .val (.ref b23), .val (.int (1 : Int32)), .val (.int (1 : Int32)), .val (.int (1 : Int32))] [(.int (1 : Int32)), (.int (f4_0 q0 q0 (0 : Int64)))]))
      refine own_step (fun t k => XS.icmpNo X25.here hx rfl (hb hby at_145) rfl (teq (show (f4_0 q0 q0 (0 : Int64)) = (1 : Int32) from by simp [f4_0])).2 k) ?_
      show own_Ends p e below s _ _ _ (T25.setTop (mkF m 148 #[.val (.long q0), .second, .val (.long q1), .second, .val (.long q2), .second, .val (.long q3), .second, .val (.long q4), .second, .val (.int p5), .val (.int (1 : Int32)), .val (.int (1 : Int32)), .val (.long q0), .second, .val (.long (0 : Int64)), .second, .val (.ref b23), .val (.int (1 : Int32)), .val (.int (1 : Int32)), .val (.int (1 : Int32))] []))
      refine own_step (fun t k => XS.iconst X25.here hx rfl (hb hby at_148) k) ?_
      show own_Ends p e below s _ _ _ (T25.setTop (mkF m 149 #[.val (.long q0), .second, .val (.long q1), .second, .val (.long q2), .second, .val (.long q3), .second, .val (.long q4), .second, .val (.int p5), .val (.int (1 : Int32)), .val (.int (1 : Int32)), .val (.long q0), .second, .val (.long (0 : Int64)), .second, .val (.ref b23), .val (.int (1 : Int32)), .val (.int (1 : Int32)), .val (.int (1 : Int32))] [(.int (1 : Int32))]))
      refine own_step (fun t k => XS.goto X25.here hx rfl (pc0 := 149) (pc' := 153) rfl (hb hby at_149) (by decide) (by decide) k) ?_
      show own_Ends p e below s _ _ _ (T25.setTop (mkF m 153 #[.val (.long q0), .second, .val (.long q1), .second, .val (.long q2), .second, .val (.long q3), .second, .val (.long q4), .second, .val (.int p5), .val (.int (1 : Int32)), .val (.int (1 : Int32)), .val (.long q0), .second, .val (.long (0 : Int64)), .second, .val (.ref b23), .val (.int (1 : Int32)), .val (.int (1 : Int32)), .val (.int (1 : Int32))] [(.int (1 : Int32))]))
      exact own_retN X25 hx hlk (t := .boolean) hret (by simp) (hb hby at_153) (w := (1 : Int32)) (by decide) ⟨rfl, N25⟩ (by decide) (by decide)
set_option maxRecDepth 65536 in
set_option maxHeartbeats 40000000 in
theorem comes_1 {Post : Tables → Env → Array Value → State → Outcome → State → Prop} (hpost : ∀ tb e args s v u, (limb_1_1.after args s (.returned v) u = true ∧ limb_1_2.after args s (.returned v) u = true ∧ True) → FrameEnd s (.returned v) u (Jvm.fieldLocs frame_1_writes args s ++ Jvm.arrayLocs frame_1_arrays args s ++ Jvm.staticLocs frame_1_statics s) 16 128 → Post tb e args s (.returned v) u) :
    ArmFor flags0 classFile x code maxLocals ret World_1 tables_1 room_1 Calls_1 rest_1 Pre_1 Post := by
  intro l hfl _ _ p e ha hc hk s m args below hf hA hF happ hP
  obtain ⟨hcalls, hrest, hpre⟩ := hP
  obtain ⟨-, -, -, hnamed, -, -, -, hat⟩ := (Spec.applies_iff hf).mp happ
  obtain ⟨hg, hn⟩ := and_e (Cond.before_iff.mp (show (Jvm.Cond.and given_1 narrow_1).before args s = true from hpre))
  obtain ⟨g0, hr0⟩ := and_e hg
  obtain ⟨g1, hr1⟩ := and_e hr0
  obtain ⟨g2, hr2⟩ := and_e hr1
  obtain ⟨g3, hr3⟩ := and_e hr2
  obtain ⟨g4, hr4⟩ := and_e hr3
  obtain ⟨g5, hr5⟩ := and_e hr4
  obtain ⟨w0, w1, w2, w3, w4, w5, rfl⟩ : ∃ w0 w1 w2 w3 w4 w5 : Value, args = #[w0, w1, w2, w3, w4, w5] := by
    have hs : args.size = 6 := by simpa [Cond.value, given_1] using g0
    obtain ⟨L⟩ := args
    match L, hs with
    | [w0, w1, w2, w3, w4, w5], _ => exact ⟨w0, w1, w2, w3, w4, w5, rfl⟩
  have hw := fun d (hd : d ∈ tables_1) => atoms_spec (ws := Jvm.Cond.code x code maxLocals ret :: tables_1) hat d (List.mem_cons_of_mem _ hd)
  obtain ⟨i0, ei0⟩ := isL_v g1
  obtain rfl : w0 = (.long i0) := Option.some.inj ei0
  obtain ⟨i1, ei1⟩ := isL_v g2
  obtain rfl : w1 = (.long i1) := Option.some.inj ei1
  obtain ⟨i2, ei2⟩ := isL_v g3
  obtain rfl : w2 = (.long i2) := Option.some.inj ei2
  obtain ⟨i3, ei3⟩ := isL_v g4
  obtain rfl : w3 = (.long i3) := Option.some.inj ei3
  obtain ⟨i4, ei4⟩ := isL_v g5
  obtain rfl : w4 = (.long i4) := Option.some.inj ei4
  obtain ⟨i5, ei5⟩ := is_v hr5
  obtain rfl : w5 = (.int i5) := Option.some.inj ei5
  obtain ⟨n, o, h1, h2, h3, _, L, rfl, ⟨rfl, N⟩, hq⟩ := rm0 l s _ hw tables_1 i0 i1 i2 i3 i4 i5 s.heap s.heap.size (Nat.le_refl _)  p e ha hc hk s m _ below hf ((Spec.applies_iff_loose hf).mp happ).1 ⟨rfl, State.Warmed39.refl s, rfl⟩ trivial
  refine ⟨n, _, h1, h2, h3, hpost _ _ _ _ _ _ ⟨Cond.after_iff.mpr rfl, Cond.after_iff.mpr (eq_i res_at (Term.int_eval (1)) rfl), trivial⟩ ⟨hq.1, hq.2.1, (hq.2.2.sift fun y hy => Or.inr (N y hy)).mono (by decide) (by decide)⟩⟩
theorem main_1_1 : Claimed_1_1 := comes_1 fun _ _ _ _ _ _ h hF => ⟨h.1, hF⟩
theorem main_1_2 : Claimed_1_2 := comes_1 fun _ _ _ _ _ _ h hF => ⟨h.2.1, hF⟩
end Jvm.Pilot.@@N@@
namespace Jvm.Pilot.@@N@@
open Jvm Jvm.ClassFile Sem Op Lib Jvm.Free Jvm.Stand Jvm.Pilot.@@N@@.Jvm.D
/-! MADE BY PROGRAM (witnessworld.py) out of the Statement's table words and the real class files: 10 classes; the members and pool entries that the words name. The judged class is class 1, her method 1. -/
namespace start1
open Jvm.ClassFile
def u (s : String) : CpInfo := .utf8 (stringToUtf16 s)
/-- a pool by its gaps: so many unusable entries, then the entry; so many at the end -/
def gap : Nat → List CpInfo → List CpInfo
  | 0, r => r
  | n + 1, r => .unusable :: gap n r
def poolList (es : List (Nat × CpInfo)) (last : Nat) : List CpInfo := es.foldr (fun e r => gap e.1 (e.2 :: r)) (gap last [])
def pool (es : List (Nat × CpInfo)) (last : Nat) : Array CpInfo := ⟨poolList es last⟩
def fileOf (pool : Array CpInfo) (this : Nat) (attrs : Array Attribute := #[]) (ms : Array MethodInfo := #[]) (fl : Nat := 33) (sup : Nat := 0) (ifs : Array Nat := #[]) (fds : Array FieldInfo := #[]) : ClassFile where
  minorVersion := 0
  majorVersion := 65
  constantPool := pool
  accessFlags := fl
  thisClass := this
  superClass := sup
  interfaces := ifs
  fields := fds
  methods := ms
  attributes := attrs
def plain (name : String) (sup : Option ClassId) : Class where
  name := name
  kind := .ordinary
  loader := none
  accessFlags := 33
  super := sup
  interfaces := #[]
  cf := none
  fields := #[]
  methods := #[]
  instanceTypes := #[]
  staticTypes := #[]
  resolved := #[]
  callSites := []
  init := .initialized
  statics := none
  mirror := none

def pool0 : Array CpInfo := pool [(5, u "<init>"), (0, u "()V"), (1, .class_ 10), (1, u "java/lang/Object")] 113

def k0c0 : Code := { maxStack := 0, maxLocals := 1, code := object_method_1_code, exceptionTable := #[], attributes := #[] }
def k0m0 : Method := { name := "<init>", desc := "()V", sig := { parameters := [], returnType := none }, accessFlags := 1, code := some k0c0 }
/-- java/lang/Object -/
def k0 : Class := { plain "java/lang/Object" none with
  accessFlags := 33
  interfaces := #[]
  cf := some (fileOf pool0 8 #[] #[{ accessFlags := 1, nameIndex := 5, descriptorIndex := 6, attributes := #[] }] 33 0 #[] #[])
  fields := #[]
  methods := #[k0m0]
  instanceTypes := #[]
  staticTypes := #[]
  resolved := Array.replicate 124 none
  statics := none }

def pool1 : Array CpInfo := pool [(2, .class_ 4), (1, u "java/lang/Object"), (0, u "<init>"), (0, u "()V"), (0, .class_ 8), (0, u "com/example/hop_mutex/hopmutex/command/Simulation$Figures"), (0, .methodref 7 10), (0, .nameAndType 5 11), (0, u "(JJJJJJJJ)V"), (0, .methodref 7 13), (0, .nameAndType 14 15), (0, u "succeeded"), (0, u "()Z"), (0, .class_ 17), (0, u "com/example/hop_mutex/hopmutex/command/FiguresSucceededPinLaw"), (2, u "law"), (0, u "(JJJJJI)Z")] 7

def k1m0 : Method := { name := "<init>", desc := "()V", sig := { parameters := [], returnType := none }, accessFlags := 1, code := none }
def k1c1 : Code := { maxStack := 18, maxLocals := 21, code := code, exceptionTable := #[], attributes := #[] }
def k1m1 : Method := { name := "law", desc := "(JJJJJI)Z", sig := { parameters := [.long, .long, .long, .long, .long, .int], returnType := some .boolean }, accessFlags := 9, code := some k1c1 }
/-- com/example/hop_mutex/hopmutex/command/FiguresSucceededPinLaw -/
def k1 : Class := { plain "com/example/hop_mutex/hopmutex/command/FiguresSucceededPinLaw" (some 0) with
  accessFlags := 49
  interfaces := #[]
  cf := some (fileOf pool1 16 #[] #[{ accessFlags := 1, nameIndex := 5, descriptorIndex := 6, attributes := #[] }, { accessFlags := 9, nameIndex := 20, descriptorIndex := 21, attributes := #[] }] 49 2 #[] #[])
  fields := #[]
  methods := #[k1m0, k1m1]
  instanceTypes := #[]
  staticTypes := #[]
  resolved := Array.replicate 29 none
  statics := none }

def pool2 : Array CpInfo := pool [(1, .methodref 2 3), (0, .class_ 4), (0, .nameAndType 5 6), (0, u "java/lang/Object"), (0, u "<init>"), (0, u "()V"), (0, .class_ 8), (0, u "java/lang/Record")] 13

def k2c0 : Code := { maxStack := 1, maxLocals := 1, code := jdk_30_method_1_code, exceptionTable := #[], attributes := #[] }
def k2m0 : Method := { name := "<init>", desc := "()V", sig := { parameters := [], returnType := none }, accessFlags := 4, code := some k2c0 }
/-- java/lang/Record -/
def k2 : Class := { plain "java/lang/Record" (some 0) with
  accessFlags := 1057
  interfaces := #[]
  cf := some (fileOf pool2 7 #[] #[{ accessFlags := 4, nameIndex := 5, descriptorIndex := 6, attributes := #[] }] 1057 2 #[] #[])
  fields := #[]
  methods := #[k2m0]
  instanceTypes := #[]
  staticTypes := #[]
  resolved := Array.replicate 22 none
  statics := none }

def pool3 : Array CpInfo := pool [(1, .methodref 2 3), (0, .class_ 4), (0, .nameAndType 5 6), (0, u "java/lang/Record"), (0, u "<init>"), (0, u "()V"), (0, .fieldref 8 9), (0, .class_ 10), (0, .nameAndType 11 12), (0, u "com/example/hop_mutex/hopmutex/command/Simulation$Figures"), (0, u "entries"), (0, u "J"), (0, .fieldref 8 14), (0, .nameAndType 15 12), (0, u "completed"), (0, .fieldref 8 17), (0, .nameAndType 18 12), (0, u "messages"), (0, .fieldref 8 20), (0, .nameAndType 21 12), (0, u "entryDelayMax"), (0, .fieldref 8 23), (0, .nameAndType 24 12), (0, u "syncDelays"), (0, .fieldref 8 26), (0, .nameAndType 27 12), (0, u "syncDelayMax"), (0, .fieldref 8 29), (0, .nameAndType 30 12), (0, u "syncDelayTotal"), (0, .fieldref 8 32), (0, .nameAndType 33 12), (0, u "overlaps"), (12, u "(JJJJJJJJ)V"), (3, u "succeeded"), (0, u "()Z"), (8, .class_ 61), (0, u "com/example/hop_mutex/hopmutex/command/Simulation")] 26

def k3c0 : Code := { maxStack := 3, maxLocals := 17, code := prog_36_method_1_code, exceptionTable := #[], attributes := #[] }
def k3m0 : Method := { name := "<init>", desc := "(JJJJJJJJ)V", sig := { parameters := [.long, .long, .long, .long, .long, .long, .long, .long], returnType := none }, accessFlags := 0, code := some k3c0 }
def k3c1 : Code := { maxStack := 4, maxLocals := 1, code := prog_36_method_2_code, exceptionTable := #[], attributes := #[] }
def k3m1 : Method := { name := "succeeded", desc := "()Z", sig := { parameters := [], returnType := some .boolean }, accessFlags := 0, code := some k3c1 }
/-- com/example/hop_mutex/hopmutex/command/Simulation$Figures -/
def k3 : Class := { plain "com/example/hop_mutex/hopmutex/command/Simulation$Figures" (some 2) with
  accessFlags := 48
  interfaces := #[]
  cf := some (fileOf pool3 8 #[.nestHost 60] #[{ accessFlags := 0, nameIndex := 5, descriptorIndex := 46, attributes := #[] }, { accessFlags := 0, nameIndex := 50, descriptorIndex := 51, attributes := #[] }] 48 2 #[] #[{ accessFlags := 18, nameIndex := 11, descriptorIndex := 12, attributes := #[] }, { accessFlags := 18, nameIndex := 15, descriptorIndex := 12, attributes := #[] }, { accessFlags := 18, nameIndex := 18, descriptorIndex := 12, attributes := #[] }, { accessFlags := 18, nameIndex := 21, descriptorIndex := 12, attributes := #[] }, { accessFlags := 18, nameIndex := 24, descriptorIndex := 12, attributes := #[] }, { accessFlags := 18, nameIndex := 27, descriptorIndex := 12, attributes := #[] }, { accessFlags := 18, nameIndex := 30, descriptorIndex := 12, attributes := #[] }, { accessFlags := 18, nameIndex := 33, descriptorIndex := 12, attributes := #[] }])
  fields := #[{ name := "entries", type := .long, accessFlags := 18, slot := 0, constantValue := 0 }, { name := "completed", type := .long, accessFlags := 18, slot := 1, constantValue := 0 }, { name := "messages", type := .long, accessFlags := 18, slot := 2, constantValue := 0 }, { name := "entryDelayMax", type := .long, accessFlags := 18, slot := 3, constantValue := 0 }, { name := "syncDelays", type := .long, accessFlags := 18, slot := 4, constantValue := 0 }, { name := "syncDelayMax", type := .long, accessFlags := 18, slot := 5, constantValue := 0 }, { name := "syncDelayTotal", type := .long, accessFlags := 18, slot := 6, constantValue := 0 }, { name := "overlaps", type := .long, accessFlags := 18, slot := 7, constantValue := 0 }]
  methods := #[k3m0, k3m1]
  instanceTypes := #[.long, .long, .long, .long, .long, .long, .long, .long]
  staticTypes := #[]
  resolved := Array.replicate 88 none
  statics := none }

def pool4 : Array CpInfo := pool [(1, u "java/lang/Cloneable"), (0, .class_ 1), (0, u "java/lang/Object"), (0, .class_ 3)] 3

/-- java/lang/Cloneable -/
def k4 : Class := { plain "java/lang/Cloneable" (some 0) with
  accessFlags := 1537
  interfaces := #[]
  cf := some (fileOf pool4 2 #[] #[] 1537 4 #[] #[])
  fields := #[]
  methods := #[]
  instanceTypes := #[]
  staticTypes := #[]
  resolved := Array.replicate 8 none
  statics := none }

def pool5 : Array CpInfo := pool [(1, u "java/io/Serializable"), (0, .class_ 1), (0, u "java/lang/Object"), (0, .class_ 3)] 3

/-- java/io/Serializable -/
def k5 : Class := { plain "java/io/Serializable" (some 0) with
  accessFlags := 1537
  interfaces := #[]
  cf := some (fileOf pool5 2 #[] #[] 1537 4 #[] #[])
  fields := #[]
  methods := #[]
  instanceTypes := #[]
  staticTypes := #[]
  resolved := Array.replicate 8 none
  statics := none }

/-- the primitive byte -/
def k6 : Class := { plain "byte" none with kind := .primitive 'B', accessFlags := 0x411 }
/-- [B -/
def k7 : Class := { plain "[B" (some 0) with kind := .array 6 .byte, interfaces := #[4, 5], accessFlags := 1041 }

/-- the primitive int -/
def k8 : Class := { plain "int" none with kind := .primitive 'I', accessFlags := 0x411 }
/-- [I -/
def k9 : Class := { plain "[I" (some 0) with kind := .array 8 .int, interfaces := #[4, 5], accessFlags := 1041 }

def heap : Heap := #[]
def classes : Array Class := #[k0, k1, k2, k3, k4, k5, k6, k7, k8, k9]
def interned : List (Array UInt16 × Addr) := []
def slotsUsed : Nat := 0
def theMethod : MethodId := ⟨1, 1⟩
def args0 : Array Value := #[.long 5, .long 6, .long 7, .long 8, .long 9, .int 3]
def aboutOver (below : List Frame) : State where
  vm := { classes := classes, interned := interned.toArray }
  heap := heap
  slotsUsed := slotsUsed
  threads := #[{ frames := .invoking theMethod args0 :: below }]
def below0 : List Frame := [.native { method := ⟨0, 0⟩, args := #[] }]
def about1 : State := aboutOver below0
def p0 : Program := .bare "" "" ""
def e0 : Env := launch0.env 0 0 0
theorem w_frames : about1.frames = Frame.invoking theMethod args0 :: below0 := rfl
set_option maxRecDepth 65536 in
theorem w_args : argsFit about1.vm theMethod args0 = true := by decide +kernel
set_option maxRecDepth 65536 in
theorem w_heap : heapFits about1 = true := by decide +kernel
set_option maxRecDepth 65536 in
theorem w_runnable : about1.curStatus? = some .runnable := by decide +kernel
set_option maxRecDepth 65536 in
theorem w_alone : about1.alone = true := by decide +kernel
set_option maxRecDepth 65536 in
theorem w_named : about1.methodNamed? x = some theMethod := by decide +kernel
set_option maxRecDepth 65536 in
theorem w_hears : about1.hears theMethod below0 = true := by decide +kernel
set_option maxRecDepth 65536 in
theorem w_ripe : about1.ripe theMethod args0 below0 = true := by decide +kernel
theorem w_running : about1.status = .running := rfl
set_option maxRecDepth 65536 in
theorem w_room : about1.hasRoom e0.platform room_1 = true :=
  launch0.hasRoom_least _ room_1 (by decide +kernel) (by decide +kernel) (by decide +kernel) (by decide +kernel) (by decide +kernel) (by decide +kernel)
theorem allAtoms_all (ts : List Jvm.Cond) (a : Array Jvm.Value) (st : Jvm.State) : (allAtoms ts).before a st = ts.all (fun c => c.before a st) := by
  induction ts with
  | nil => rfl
  | cons c t ih =>
    show (Jvm.Cond.and c (allAtoms t)).before a st = _
    rw [Jvm.Cond.before_and, ih, List.all_cons]
def words1 : List Jvm.Cond := Jvm.Cond.code x code maxLocals ret :: tables_1
/-- a 'code' word, met by the world's own term for the bytes: nothing is compared byte by byte -/
theorem code_word {y : MethodName} {bytes : ByteArray} {mx : Nat} {rt : Option FieldType} {a : Array Value} {s : State} {m : MethodId} {meth : Method} {c : Code} (h1 : s.methodNamed? y = some m) (h2 : s.vm.method? m = some meth) (h3 : meth.code = some c) (h4 : c.code = bytes)
    (h5 : (c.maxLocals == mx && c.exceptionTable.isEmpty && decide (c.maxStack ≤ mostOperands) && decide (meth.sig.returnType = rt) && !meth.locks && decide (parseMethodDescriptor y.desc = some meth.sig)) = true) : (Jvm.Cond.code y bytes mx rt).before a s = true := by
  simp only [Bool.and_eq_true, beq_iff_eq, Bool.not_eq_true', decide_eq_true_eq] at h5
  obtain ⟨⟨⟨⟨⟨g1, g2⟩, g3⟩, g4⟩, g5⟩, g6⟩ := h5
  simp [Cond.before, Cond.holds, Cond.value, h1, h2, h3, h4, g1, g2, g3, g4, g5, g6]
def isCode : Jvm.Cond → Bool
  | .code _ _ _ _ => true
  | _ => false
theorem all_split {L : List Jvm.Cond} {P : Jvm.Cond → Bool} (h1 : L.all (fun c => isCode c || P c) = true) (h2 : ∀ c ∈ L.filter isCode, P c = true) : L.all P = true := by
  refine List.all_eq_true.mpr fun c hc => ?_
  have h := List.all_eq_true.mp h1 c hc
  rcases Bool.eq_false_or_eq_true (isCode c) with hi | hi
  · exact h2 c (List.mem_filter.mpr ⟨hc, hi⟩)
  · simpa [hi] using h
set_option maxRecDepth 65536 in
theorem w_c0 : (Jvm.Cond.code x code maxLocals ret).before args0 about1 = true := code_word (m := ⟨1, 1⟩) (meth := k1m1) (c := k1c1) (by decide +kernel) rfl rfl rfl (by decide +kernel)
set_option maxRecDepth 65536 in
theorem w_c1 : (Jvm.Cond.code ({ cls := "com/example/hop_mutex/hopmutex/command/Simulation$Figures", name := "<init>", desc := "(JJJJJJJJ)V" } : Jvm.MethodName) prog_36_method_1_code (17 : Nat) (Option.none : Option Jvm.ClassFile.FieldType)).before args0 about1 = true := code_word (m := ⟨3, 0⟩) (meth := k3m0) (c := k3c0) (by decide +kernel) rfl rfl rfl (by decide +kernel)
set_option maxRecDepth 65536 in
theorem w_c2 : (Jvm.Cond.code ({ cls := "java/lang/Record", name := "<init>", desc := "()V" } : Jvm.MethodName) jdk_30_method_1_code (1 : Nat) (Option.none : Option Jvm.ClassFile.FieldType)).before args0 about1 = true := code_word (m := ⟨2, 0⟩) (meth := k2m0) (c := k2c0) (by decide +kernel) rfl rfl rfl (by decide +kernel)
set_option maxRecDepth 65536 in
theorem w_c3 : (Jvm.Cond.code ({ cls := "java/lang/Object", name := "<init>", desc := "()V" } : Jvm.MethodName) object_method_1_code (1 : Nat) (Option.none : Option Jvm.ClassFile.FieldType)).before args0 about1 = true := code_word (m := ⟨0, 0⟩) (meth := k0m0) (c := k0c0) (by decide +kernel) rfl rfl rfl (by decide +kernel)
set_option maxRecDepth 65536 in
theorem w_c4 : (Jvm.Cond.code ({ cls := "com/example/hop_mutex/hopmutex/command/Simulation$Figures", name := "succeeded", desc := "()Z" } : Jvm.MethodName) prog_36_method_2_code (1 : Nat) (Option.some Jvm.ClassFile.FieldType.boolean)).before args0 about1 = true := code_word (m := ⟨3, 1⟩) (meth := k3m1) (c := k3c1) (by decide +kernel) rfl rfl rfl (by decide +kernel)
def codes1 : List Jvm.Cond := [Jvm.Cond.code x code maxLocals ret, Jvm.Cond.code ({ cls := "com/example/hop_mutex/hopmutex/command/Simulation$Figures", name := "<init>", desc := "(JJJJJJJJ)V" } : Jvm.MethodName) prog_36_method_1_code (17 : Nat) (Option.none : Option Jvm.ClassFile.FieldType), Jvm.Cond.code ({ cls := "java/lang/Record", name := "<init>", desc := "()V" } : Jvm.MethodName) jdk_30_method_1_code (1 : Nat) (Option.none : Option Jvm.ClassFile.FieldType), Jvm.Cond.code ({ cls := "java/lang/Object", name := "<init>", desc := "()V" } : Jvm.MethodName) object_method_1_code (1 : Nat) (Option.none : Option Jvm.ClassFile.FieldType), Jvm.Cond.code ({ cls := "com/example/hop_mutex/hopmutex/command/Simulation$Figures", name := "succeeded", desc := "()Z" } : Jvm.MethodName) prog_36_method_2_code (1 : Nat) (Option.some Jvm.ClassFile.FieldType.boolean)]
set_option maxRecDepth 65536 in
theorem codes_eq : words1.filter isCode = codes1 := rfl
theorem w_codes : ∀ c ∈ words1.filter isCode, c.before args0 about1 = true := by
  rw [codes_eq]
  intro c hc
  simp only [codes1, List.mem_cons, List.not_mem_nil, or_false] at hc
  rcases hc with rfl | rfl | rfl | rfl | rfl
  · exact w_c0
  · exact w_c1
  · exact w_c2
  · exact w_c3
  · exact w_c4
set_option maxRecDepth 65536 in
theorem w_t1 : (words1.take 24).all (fun c => isCode c || c.before args0 about1) = true := by decide +kernel
set_option maxRecDepth 65536 in
theorem w_t2 : (words1.drop 24).all (fun c => isCode c || c.before args0 about1) = true := by decide +kernel
theorem w_tables : (allAtoms (Jvm.Cond.code x code maxLocals ret :: tables_1)).before args0 about1 = true := by
  rw [allAtoms_all]
  show words1.all (fun c => c.before args0 about1) = true
  refine all_split ?_ w_codes
  rw [← List.take_append_drop 24 words1, List.all_append, w_t1, w_t2]
  rfl
set_option maxRecDepth 65536 in
theorem w_case : (Jvm.Cond.and given_1 narrow_1).before args0 about1 = true := by decide +kernel
theorem w_applies : (headSpec (Jvm.Cond.code x code maxLocals ret :: tables_1) room_1).applies x e0.platform about1 = true :=
  (Spec.applies_iff w_frames).mpr ⟨w_running, w_runnable, w_alone, w_named, w_hears, w_ripe, w_room, w_tables⟩
theorem atStart : AtStart classFile x code maxLocals ret World_1 tables_1 room_1 Calls_1 rest_1 Pre_1 launch0 p0 e0 about1 theMethod args0 below0 :=
  ⟨lists_1, trivial, launch0.admits_env _ _ _, launch0.least_env, fairChoices_fair.cas, fairChoices_fair.clock, w_frames, w_args, w_heap, w_applies, trivial, trivial, w_case⟩
end start1
theorem witness_1 : WitnessClaimed_1 := ⟨start1.p0, start1.e0, start1.about1, start1.theMethod, start1.args0, start1.below0, start1.atStart⟩
end Jvm.Pilot.@@N@@
