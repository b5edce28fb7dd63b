import JvmDerived
import JvmDerived.Pilot.@@N@@Statement
import JvmDerived.Pilot.@@N@@Code
set_option linter.unusedVariables false
set_option linter.unusedSimpArgs false
namespace Jvm.Pilot.@@N@@
open Jvm Jvm.ClassFile Sem Op Lib Jvm.Free Jvm.Stand Jvm.LawKit Jvm.RoadKit Bundle Jvm.Pilot.@@N@@.Jvm.D
section OwnKit
variable {p : Program} {l : Launch} {e : Env} {R : Room} {s : State} {m : MethodId} {args : Array Value} {below : List Frame} {meth : Method} {c : Code} {T : State} {locs : List Loc} {cells slots : Nat} {Z : State} {h h' : Heap} {a b : Addr} {kc ks : Nat} {Q : Option Value → Heap → List Loc → Prop}
/-- from U the run comes to the method's end, and Q says what is left there -/
def own_Ends (p : Program) (e : Env) (below : List Frame) (s : State) (kc ks : Nat) (Q : Option Value → Heap → List Loc → Prop) (U : State) : Prop :=
  ∃ s₂ o, Steps p.tables e below U s₂ ∧ s₂.status = .running ∧ Ended s₂ below o ∧ ∃ v L, o = .returned v ∧ Q v s₂.heap L ∧ FrameEnd s o s₂ L kc ks
theorem own_step {U U' : State} (k1 : ∀ t, Steps p.tables e below U' t → Steps p.tables e below U t) (k2 : own_Ends p e below s kc ks Q U') : own_Ends p e below s kc ks Q U := by
  obtain ⟨s₂, o, h1, r⟩ := k2
  exact ⟨s₂, o, k1 _ h1, r⟩
theorem own_cast {g g' : JFrame} (q : g = g') (k : own_Ends p e below s kc ks Q (T.setTop g')) : own_Ends p e below s kc ks Q (T.setTop g) := q ▸ k
theorem own_ret0 (X : Stand p l e R s m args below meth c T locs cells slots) (hx : p.tables.exec = Jvm.exec) (hlk : meth.locks = false) (hret : meth.sig.returnType = none) {pc : Nat} {Ls : Array Slot}
    (hd : decode c.code pc = .ok (.return_, 1)) (hq : Q none T.heap locs) (hk : cells ≤ kc) (hn : slots ≤ ks) : own_Ends p e below s kc ks Q (T.setTop (mkF m pc Ls [])) := by
  obtain ⟨fs, hr, hrun, hended, hW, hsame⟩ := X.leave (v := none) (fun _ => rfl) hlk
  exact ⟨_, _, X.returnOut hx hret hd hr, hrun, hended, _, _, rfl, hq, ⟨_, rfl⟩, hW, hsame.mono hk hn⟩
theorem own_retN (X : Stand p l e R s m args below meth c T locs cells slots) (hx : p.tables.exec = Jvm.exec) (hlk : meth.locks = false) {t : FieldType} (hret : meth.sig.returnType = some t) (ht : t = .boolean ∨ t = .byte ∨ t = .char ∨ t = .short) {pc : Nat} {Ls : Array Slot} {z : Int32} {rest : List Value}
    (hd : decode c.code pc = .ok (.ireturn, 1)) {w : Int32} (hw : nar t z = w) (hq : Q (some (.int w)) T.heap locs) (hk : cells ≤ kc) (hn : slots ≤ ks) : own_Ends p e below s kc ks Q (T.setTop (mkF m pc Ls (.int z :: rest))) := by
  subst hw
  obtain ⟨fs, hr, hrun, hended, hW, hsame⟩ := X.leave (v := some (.int (nar t z))) (fun h => by rw [hret] at h; cases h) hlk
  exact ⟨_, _, retN X hx hret ht hd hr, hrun, hended, _, _, rfl, hq, ⟨_, rfl⟩, hW, hsame.mono hk hn⟩
theorem own_retI (X : Stand p l e R s m args below meth c T locs cells slots) (hx : p.tables.exec = Jvm.exec) (hlk : meth.locks = false) (hret : meth.sig.returnType = some .int) {pc : Nat} {Ls : Array Slot} {z : Int32} {rest : List Value}
    (hd : decode c.code pc = .ok (.ireturn, 1)) (hq : Q (some (.int z)) T.heap locs) (hk : cells ≤ kc) (hn : slots ≤ ks) : own_Ends p e below s kc ks Q (T.setTop (mkF m pc Ls (.int z :: rest))) := by
  obtain ⟨fs, hr, hrun, hended, hW, hsame⟩ := X.leave (v := some (.int z)) (fun h => by rw [hret] at h; cases h) hlk
  exact ⟨_, _, retOut X hx hret rfl (Or.inl ⟨rfl, Or.inl rfl, _, rfl⟩) hd hr, hrun, hended, _, _, rfl, hq, ⟨_, rfl⟩, hW, hsame.mono hk hn⟩
theorem own_retL (X : Stand p l e R s m args below meth c T locs cells slots) (hx : p.tables.exec = Jvm.exec) (hlk : meth.locks = false) (hret : meth.sig.returnType = some .long) {pc : Nat} {Ls : Array Slot} {z : Int64} {rest : List Value}
    (hd : decode c.code pc = .ok (.lreturn, 1)) (hq : Q (some (.long z)) T.heap locs) (hk : cells ≤ kc) (hn : slots ≤ ks) : own_Ends p e below s kc ks Q (T.setTop (mkF m pc Ls (.long z :: rest))) := by
  obtain ⟨fs, hr, hrun, hended, hW, hsame⟩ := X.leave (v := some (.long z)) (fun h => by rw [hret] at h; cases h) hlk
  exact ⟨_, _, retOut X hx hret rfl (Or.inr (Or.inl ⟨rfl, rfl, _, rfl⟩)) hd hr, hrun, hended, _, _, rfl, hq, ⟨_, rfl⟩, hW, hsame.mono hk hn⟩
theorem own_retA (X : Stand p l e R s m args below meth c T locs cells slots) (hx : p.tables.exec = Jvm.exec) (hlk : meth.locks = false) {t : FieldType} (hret : meth.sig.returnType = some t) {pc : Nat} {Ls : Array Slot} {z : Addr} {rest : List Value} (ht : t.isReference = true) (hnw : narrow t (.ref z) = .ref z)
    (hd : decode c.code pc = .ok (.areturn, 1)) (hq : Q (some (.ref z)) T.heap locs) (hk : cells ≤ kc) (hn : slots ≤ ks) : own_Ends p e below s kc ks Q (T.setTop (mkF m pc Ls (.ref z :: rest))) := by
  obtain ⟨fs, hr, hrun, hended, hW, hsame⟩ := X.leave (v := some (.ref z)) (fun h => by rw [hret] at h; cases h) hlk
  exact ⟨_, _, retOut X hx hret hnw (Or.inr (Or.inr (Or.inr (Or.inr ⟨rfl, ht, rfl⟩)))) hd hr, hrun, hended, _, _, rfl, hq, ⟨_, rfl⟩, hW, hsame.mono hk hn⟩
theorem own_lrem {g : JFrame} {target : State} (X : Stand p l e R s m args below meth c T locs cells slots) (hx : p.tables.exec = Jvm.exec) (hg : g.method = m) {x y : Int64} {rest : List Value} (hd : decode c.code g.pc = .ok (.lrem, 1)) (hs : g.stack = .long y :: .long x :: rest) (hy : y ≠ 0)
    (hr : Steps p.tables e below (T.setTop { g with pc := g.pc + 1, stack := .long (x % y) :: rest }) target) : Steps p.tables e below (T.setTop g) target := by
  have q : x - x / y * y = x % y := lrem_mod x y
  exact XS.lrem X.here hx hg hd hs hy (by rw [q]; exact hr)
theorem own_pop2L {g : JFrame} {target : State} (X : Stand p l e R s m args below meth c T locs cells slots) (hx : p.tables.exec = Jvm.exec) (hg : g.method = m) {x : Int64} {rest : List Value} (hd : decode c.code g.pc = .ok (.pop2, 1)) (hs : g.stack = .long x :: rest)
    (hr : Steps p.tables e below (T.setTop { g with pc := g.pc + 1, stack := rest }) target) : Steps p.tables e below (T.setTop g) target := by
  subst hg
  jvm_step X.here [X.here.top, hx, hd, hs, Value.category]
  exact hr
/-! arrays, by what each place holds -/
def own_up {α : Type} (f : Nat → α) (i : Nat) (x : α) : Nat → α := fun k => if k = i then x else f k
def own_AI (Z : State) (h : Heap) (a : Addr) (ty : FieldType) (n : Nat) (f : Nat → Int32) : Prop := ∃ c : Cell, Arr Z h a c ty ∧ c.slots.size = n ∧ ∀ k, k < n → c.slots[k]? = some (.int (f k))
def own_AJ (Z : State) (h : Heap) (a : Addr) (n : Nat) (f : Nat → Int64) : Prop := ∃ c : Cell, Arr Z h a c .long ∧ c.slots.size = n ∧ ∀ k, k < n → c.slots[k]? = some (.long (f k))
theorem own_AI.lt {ty : FieldType} {n : Nat} {f : Nat → Int32} (A : own_AI Z h a ty n f) : a < h.size := by obtain ⟨c, A, -⟩ := A; exact A.lt
theorem own_AI.ext {ty : FieldType} {n : Nat} {f : Nat → Int32} (A : own_AI Z h a ty n f) (E : Ext h h') : own_AI Z h' a ty n f := by obtain ⟨c, A, r⟩ := A; exact ⟨c, A.ext E, r⟩
theorem own_AI.other {ty : FieldType} {n : Nat} {f : Nat → Int32} {sl : Nat} {v : Value} (A : own_AI Z h b ty n f) (W : Wr h h' a sl v) (q : b ≠ a) : own_AI Z h' b ty n f := by obtain ⟨c, A, r⟩ := A; exact ⟨c, A.other W q, r⟩
theorem own_AI.keep {ty : FieldType} {n : Nat} {f : Nat → Int32} {ws : List Addr} (A : own_AI Z h a ty n f) (K : Keep h h' ws) (q : a ∉ ws) : own_AI Z h' a ty n f := by obtain ⟨c, A, r⟩ := A; exact ⟨c, ⟨K.2.1 a c A.1 q, A.2⟩, r⟩
theorem own_AJ.lt {n : Nat} {f : Nat → Int64} (A : own_AJ Z h a n f) : a < h.size := by obtain ⟨c, A, -⟩ := A; exact A.lt
theorem own_AJ.ext {n : Nat} {f : Nat → Int64} (A : own_AJ Z h a n f) (E : Ext h h') : own_AJ Z h' a n f := by obtain ⟨c, A, r⟩ := A; exact ⟨c, A.ext E, r⟩
theorem own_idx {j : Int32} {i n : Nat} {cl : Cell} (hi : j.toInt = (i : Int)) (hn : i < n) (hs : cl.slots.size = n) : ¬ (j < 0 ∨ cl.slots.size ≤ j.toNatClampNeg) ∧ j.toNatClampNeg = i := by
  have e : j.toNatClampNeg = i := by
    show j.toInt.toNat = i
    omega
  refine ⟨?_, e⟩
  rw [e, hs]
  intro q
  rcases q with q | q
  · rw [Int32.lt_iff_toInt_lt, hi] at q
    have z : (0 : Int32).toInt = 0 := by decide
    omega
  · omega
theorem own_set {n : Nat} {cl : Cell} {i : Nat} {v : Value} {g : Nat → Value} (hs : cl.slots.size = n) (hn : i < n) (hf : ∀ k, k < n → cl.slots[k]? = some (g k)) : (cl.setSlot i v).slots.size = n ∧ ∀ k, k < n → (cl.setSlot i v).slots[k]? = some (if k = i then v else g k) := by
  refine ⟨by rw [sz_set]; exact hs, fun k hk => ?_⟩
  by_cases q : k = i
  · subst q; simp [Cell.setSlot, hs, hn]
  · have : (cl.setSlot i v).slots[k]? = cl.slots[k]? := Array.getElem?_setIfInBounds_ne (fun z => q z.symm)
    rw [this, hf k hk, if_neg q]
theorem own_stI (X : Stand p l e R s m args below meth c T locs cells slots) (hx : p.tables.exec = Jvm.exec) (hZ : Z.Warmed39 s.vm) (eT : T.heap = h) {n : Nat} {f : Nat → Int32} (A : own_AI Z h a .int n f) {j x : Int32} (i : Nat) (hi : j.toInt = (i : Int)) (hn : i < n) {g : JFrame} (hg : g.method = m) {rest : List Value} (hs : g.stack = .int x :: .int j :: .ref a :: rest) (hd : decode c.code g.pc = .ok (.iastore, 1)) :
    ∃ T' h', Stand p l e R s m args below meth c T' (locs ++ [⟨a, i⟩]) cells slots ∧ T'.heap = h' ∧ Wr h h' a i (.int x) ∧ own_AI Z h' a .int n (own_up f i x) ∧ ∀ target, Steps p.tables e below (T'.setTop { g with pc := g.pc + 1, stack := rest }) target → Steps p.tables e below (T.setTop g) target := by
  obtain ⟨cl, A1, A2, A3⟩ := A
  obtain ⟨q1, q2⟩ := own_idx hi hn A2
  obtain ⟨T', h', X', e', W, st⟩ := stI X hx hZ eT A1 q1 hg hs hd
  rw [q2] at X' W
  obtain ⟨r1, r2⟩ := own_set (v := .int x) A2 hn A3
  refine ⟨T', h', X', e', W, ⟨cl.setSlot i (.int x), A1.same W, r1, fun k hk => ?_⟩, st⟩
  rw [r2 k hk]
  by_cases q : k = i
  · simp [own_up, q]
  · simp [own_up, q]
theorem own_stB (X : Stand p l e R s m args below meth c T locs cells slots) (hx : p.tables.exec = Jvm.exec) (hZ : Z.Warmed39 s.vm) (eT : T.heap = h) {n : Nat} {f : Nat → Int32} (A : own_AI Z h a .byte n f) {j x : Int32} (i : Nat) (hi : j.toInt = (i : Int)) (hn : i < n) {g : JFrame} (hg : g.method = m) {rest : List Value} (hs : g.stack = .int x :: .int j :: .ref a :: rest) (hd : decode c.code g.pc = .ok (.bastore, 1)) :
    ∃ T' h', Stand p l e R s m args below meth c T' (locs ++ [⟨a, i⟩]) cells slots ∧ T'.heap = h' ∧ Wr h h' a i (.int (x.toInt8.toInt32)) ∧ own_AI Z h' a .byte n (own_up f i (x.toInt8.toInt32)) ∧ ∀ target, Steps p.tables e below (T'.setTop { g with pc := g.pc + 1, stack := rest }) target → Steps p.tables e below (T.setTop g) target := by
  obtain ⟨cl, A1, A2, A3⟩ := A
  obtain ⟨q1, q2⟩ := own_idx hi hn A2
  obtain ⟨T', h', X', e', W, st⟩ := stB X hx hZ eT A1 q1 hg hs hd
  rw [q2] at X' W
  obtain ⟨r1, r2⟩ := own_set (v := .int (x.toInt8.toInt32)) A2 hn A3
  refine ⟨T', h', X', e', W, ⟨cl.setSlot i (.int (x.toInt8.toInt32)), A1.same W, r1, fun k hk => ?_⟩, st⟩
  rw [r2 k hk]
  by_cases q : k = i
  · simp [own_up, q]
  · simp [own_up, q]
theorem own_stJ (X : Stand p l e R s m args below meth c T locs cells slots) (hx : p.tables.exec = Jvm.exec) (hZ : Z.Warmed39 s.vm) (eT : T.heap = h) {n : Nat} {f : Nat → Int64} (A : own_AJ Z h a n f) {j : Int32} {x : Int64} (i : Nat) (hi : j.toInt = (i : Int)) (hn : i < n) {g : JFrame} (hg : g.method = m) {rest : List Value} (hs : g.stack = .long x :: .int j :: .ref a :: rest) (hd : decode c.code g.pc = .ok (.lastore, 1)) :
    ∃ T' h', Stand p l e R s m args below meth c T' (locs ++ [⟨a, i⟩]) cells slots ∧ T'.heap = h' ∧ Wr h h' a i (.long x) ∧ own_AJ Z h' a n (own_up f i x) ∧ ∀ target, Steps p.tables e below (T'.setTop { g with pc := g.pc + 1, stack := rest }) target → Steps p.tables e below (T.setTop g) target := by
  obtain ⟨cl, A1, A2, A3⟩ := A
  obtain ⟨q1, q2⟩ := own_idx hi hn A2
  obtain ⟨T', h', X', e', W, st⟩ := stJ X hx hZ eT A1 q1 hg hs hd
  rw [q2] at X' W
  obtain ⟨r1, r2⟩ := own_set (v := .long x) A2 hn A3
  refine ⟨T', h', X', e', W, ⟨cl.setSlot i (.long x), A1.same W, r1, fun k hk => ?_⟩, st⟩
  rw [r2 k hk]
  by_cases q : k = i
  · simp [own_up, q]
  · simp [own_up, q]
theorem own_ldI (X : Stand p l e R s m args below meth c T locs cells slots) (hx : p.tables.exec = Jvm.exec) (hZ : Z.Warmed39 s.vm) (eT : T.heap = h) {n : Nat} {f : Nat → Int32} (A : own_AI Z h a .int n f) {j : Int32} (i : Nat) (hi : j.toInt = (i : Int)) (hn : i < n) {g : JFrame} (hg : g.method = m) {rest : List Value} (hs : g.stack = .int j :: .ref a :: rest) (hd : decode c.code g.pc = .ok (.iaload, 1)) :
    ∀ target, Steps p.tables e below (T.setTop { g with pc := g.pc + 1, stack := .int (f i) :: rest }) target → Steps p.tables e below (T.setTop g) target := by
  obtain ⟨cl, A1, A2, A3⟩ := A
  obtain ⟨q1, q2⟩ := own_idx hi hn A2
  exact X.iaload hx (j := j) (v := .int (f i)) (by rw [eT]; exact A1.1) (State.isArrayOf_alike hZ.alike A1.2.1) A1.2.2 q1 (by rw [q2]; exact A3 i hn) hg hs hd
theorem own_ldB (X : Stand p l e R s m args below meth c T locs cells slots) (hx : p.tables.exec = Jvm.exec) (hZ : Z.Warmed39 s.vm) (eT : T.heap = h) {n : Nat} {f : Nat → Int32} (A : own_AI Z h a .byte n f) {j : Int32} (i : Nat) (hi : j.toInt = (i : Int)) (hn : i < n) {g : JFrame} (hg : g.method = m) {rest : List Value} (hs : g.stack = .int j :: .ref a :: rest) (hd : decode c.code g.pc = .ok (.baload, 1)) :
    ∀ target, Steps p.tables e below (T.setTop { g with pc := g.pc + 1, stack := .int (f i) :: rest }) target → Steps p.tables e below (T.setTop g) target := by
  obtain ⟨cl, A1, A2, A3⟩ := A
  obtain ⟨q1, q2⟩ := own_idx hi hn A2
  exact X.baloadBytes hx (j := j) (v := .int (f i)) (by rw [eT]; exact A1.1) (State.isArrayOf_alike hZ.alike A1.2.1) A1.2.2 q1 (by rw [q2]; exact A3 i hn) hg hs hd
theorem own_ldJ (X : Stand p l e R s m args below meth c T locs cells slots) (hx : p.tables.exec = Jvm.exec) (hZ : Z.Warmed39 s.vm) (eT : T.heap = h) {n : Nat} {f : Nat → Int64} (A : own_AJ Z h a n f) {j : Int32} (i : Nat) (hi : j.toInt = (i : Int)) (hn : i < n) {g : JFrame} (hg : g.method = m) {rest : List Value} (hs : g.stack = .int j :: .ref a :: rest) (hd : decode c.code g.pc = .ok (.laload, 1)) :
    ∀ target, Steps p.tables e below (T.setTop { g with pc := g.pc + 1, stack := .long (f i) :: rest }) target → Steps p.tables e below (T.setTop g) target := by
  obtain ⟨cl, A1, A2, A3⟩ := A
  obtain ⟨q1, q2⟩ := own_idx hi hn A2
  exact X.laload hx (j := j) (v := .long (f i)) (by rw [eT]; exact A1.1) (State.isArrayOf_alike hZ.alike A1.2.1) A1.2.2 q1 (by rw [q2]; exact A3 i hn) hg hs hd
theorem own_lenI (X : Stand p l e R s m args below meth c T locs cells slots) (hx : p.tables.exec = Jvm.exec) (hZ : Z.Warmed39 s.vm) (eT : T.heap = h) {ty : FieldType} {n : Nat} {f : Nat → Int32} (A : own_AI Z h a ty n f) {z : Int32} (hz : n.toInt32 = z) {g : JFrame} (hg : g.method = m) {rest : List Value} (hs : g.stack = .ref a :: rest) (hd : decode c.code g.pc = .ok (.arraylength, 1)) :
    ∀ target, Steps p.tables e below (T.setTop { g with pc := g.pc + 1, stack := .int z :: rest }) target → Steps p.tables e below (T.setTop g) target := by
  obtain ⟨cl, A1, A2, A3⟩ := A
  intro t k
  refine X.arraylength hx (by rw [eT]; exact A1.1) (State.isArrayOf_alike hZ.alike A1.2.1) hg hs hd t ?_
  rw [A2, hz]; exact k
theorem own_newI (X : Stand p l e R s m args below meth c T locs cells slots) (hx : p.tables.exec = Jvm.exec) (hZ : Z.Warmed39 s.vm) {a0 : Array Value} {aty : ArrayType} (w : (Cond.arrayClass (newarray.typeOf aty)).before a0 Z = true) (eT : T.heap = h) {g : JFrame} (hg : g.method = m) (hd : decode c.code g.pc = .ok (.newarray aty, 2)) {n : Int32} {rest : List Value} (hs : g.stack = .int n :: rest)
    {N : Nat} (hn : n.toInt = (N : Int)) (hb : N * 8 ≤ 536870912) (hc : cells + 1 ≤ R.cells) (hl : slots + N ≤ R.slots) (hdv : defaultValue (newarray.typeOf aty) = .int 0) :
    ∃ T' h', Stand p l e R s m args below meth c T' locs (cells + 1) (slots + N) ∧ T'.heap = h' ∧ Ext h h' ∧ own_AI Z h' h.size (newarray.typeOf aty) N (fun _ => 0) ∧
      ∀ target, Steps p.tables e below (T'.setTop { g with pc := g.pc + 2, stack := .ref h.size :: rest }) target → Steps p.tables e below (T.setTop g) target := by
  have e1 : n.toNatClampNeg = N := by
    show n.toInt.toNat = N
    omega
  have e2 : ¬ n < 0 := by
    rw [Int32.lt_iff_toInt_lt, hn]
    have z : (0 : Int32).toInt = 0 := by decide
    omega
  obtain ⟨T', h', cA, X', e', E, A, st⟩ := newP X hx hZ w eT hg hd hs e2 (cap := N) (by omega) hb hc hl
  refine ⟨T', h', X', e', E, ⟨_, A, by rw [sz_new, e1], fun k hk => ?_⟩, st⟩
  simp [newA, e1, hk, hdv]
theorem own_newJ (X : Stand p l e R s m args below meth c T locs cells slots) (hx : p.tables.exec = Jvm.exec) (hZ : Z.Warmed39 s.vm) {a0 : Array Value} (w : (Cond.arrayClass (newarray.typeOf .long)).before a0 Z = true) (eT : T.heap = h) {g : JFrame} (hg : g.method = m) (hd : decode c.code g.pc = .ok (.newarray .long, 2)) {n : Int32} {rest : List Value} (hs : g.stack = .int n :: rest)
    {N : Nat} (hn : n.toInt = (N : Int)) (hb : N * 8 ≤ 536870912) (hc : cells + 1 ≤ R.cells) (hl : slots + N ≤ R.slots) :
    ∃ T' h', Stand p l e R s m args below meth c T' locs (cells + 1) (slots + N) ∧ T'.heap = h' ∧ Ext h h' ∧ own_AJ Z h' h.size N (fun _ => 0) ∧
      ∀ target, Steps p.tables e below (T'.setTop { g with pc := g.pc + 2, stack := .ref h.size :: rest }) target → Steps p.tables e below (T.setTop g) target := by
  have e1 : n.toNatClampNeg = N := by
    show n.toInt.toNat = N
    omega
  have e2 : ¬ n < 0 := by
    rw [Int32.lt_iff_toInt_lt, hn]
    have z : (0 : Int32).toInt = 0 := by decide
    omega
  obtain ⟨T', h', cA, X', e', E, A, st⟩ := newP X hx hZ w eT hg hd hs e2 (cap := N) (by omega) hb hc hl
  refine ⟨T', h', X', e', E, ⟨_, A, by rw [sz_new, e1], fun k hk => ?_⟩, st⟩
  simp [newA, e1, hk, defaultValue, newarray.typeOf]
end OwnKit
theorem d1_0 : decode prog_49_method_5_code 0 = .ok (.iconst 3, 1) := by decide +kernel
theorem d1_1 : decode prog_49_method_5_code 1 = .ok (.newarray .byte, 2) := by decide +kernel
theorem d1_3 : decode prog_49_method_5_code 3 = .ok (.dup, 1) := by decide +kernel
theorem d1_4 : decode prog_49_method_5_code 4 = .ok (.iconst 0, 1) := by decide +kernel
theorem d1_5 : decode prog_49_method_5_code 5 = .ok (.iconst 3, 1) := by decide +kernel
theorem d1_6 : decode prog_49_method_5_code 6 = .ok (.bastore, 1) := by decide +kernel
theorem d1_7 : decode prog_49_method_5_code 7 = .ok (.dup, 1) := by decide +kernel
theorem d1_8 : decode prog_49_method_5_code 8 = .ok (.iconst 1, 1) := by decide +kernel
theorem d1_9 : decode prog_49_method_5_code 9 = .ok (.iload_n 0, 1) := by decide +kernel
theorem d1_10 : decode prog_49_method_5_code 10 = .ok (.bipush 8, 2) := by decide +kernel
theorem d1_12 : decode prog_49_method_5_code 12 = .ok (.iushr, 1) := by decide +kernel
theorem d1_13 : decode prog_49_method_5_code 13 = .ok (.i2b, 1) := by decide +kernel
theorem d1_14 : decode prog_49_method_5_code 14 = .ok (.bastore, 1) := by decide +kernel
theorem d1_15 : decode prog_49_method_5_code 15 = .ok (.dup, 1) := by decide +kernel
theorem d1_16 : decode prog_49_method_5_code 16 = .ok (.iconst 2, 1) := by decide +kernel
theorem d1_17 : decode prog_49_method_5_code 17 = .ok (.iload_n 0, 1) := by decide +kernel
theorem d1_18 : decode prog_49_method_5_code 18 = .ok (.i2b, 1) := by decide +kernel
theorem d1_19 : decode prog_49_method_5_code 19 = .ok (.bastore, 1) := by decide +kernel
theorem d1_20 : decode prog_49_method_5_code 20 = .ok (.areturn, 1) := by decide +kernel
theorem pn_1 : plainName "com/example/hop_mutex/hopmutex/transport/Frames" = true := by first | (simp [plainName, overriddenIn]; done) | decide +kernel
theorem ef_1 (m : MethodId) (p0 : Int32) : entryFrame m #[(.int p0)] 1 = mkF m 0 #[.val (.int p0)] [] := by first | (simp [entryFrame, mkF, argsToLocals, Value.category]; done) | rfl
def Q1 (Z : State) (p0 : Int32) (h0 : Heap) (n0 : Nat) (v : Option Value) (h : Heap) (L : List Loc) : Prop := ∃ r, v = some (.ref r) ∧ Fr n0 L ∧ n0 ≤ h.size ∧ own_AI Z h r .byte 3 (own_up (own_up (own_up (fun _ => 0) 0 ((3 : Int32).toInt8.toInt32)) 1 ((((p0.toUInt32 >>> ((8 : Int32) &&& 31).toUInt32).toInt32).toInt8.toInt32).toInt8.toInt32)) 2 ((p0.toInt8.toInt32).toInt8.toInt32))
set_option maxRecDepth 65536 in
set_option maxHeartbeats 40000000 in
theorem rm1 (l : Launch) (Z : State) (a0 : Array Value) (hw : ∀ d ∈ tables_1, d.before a0 Z = true) (ws : List Jvm.Cond) (p0 : Int32) (h0 : Heap) (n0 : Nat) (Z0 : n0 ≤ h0.size) :
    MetFree l (⟨"com/example/hop_mutex/hopmutex/transport/Frames", "lost", "(I)[B"⟩ : MethodName) (head1 (Jvm.Cond.code (⟨"com/example/hop_mutex/hopmutex/transport/Frames", "lost", "(I)[B"⟩ : MethodName) prog_49_method_5_code 1 (some (.array .byte)) :: ws) ({ frames := 0, cells := 1, slots := 3, locals := 0 } : Room)) (fun a U => a = #[(.int p0)] ∧ Z.Warmed39 U.vm ∧ U.heap = h0) (fun _ _ _ _ _ => True) (fun _ U o U' => ∃ v L, o = .returned v ∧ (Q1 Z p0 h0 n0) v U'.heap L ∧ FrameEnd U o U' L ({ frames := 0, cells := 1, slots := 3, locals := 0 } : Room).cells ({ frames := 0, cells := 1, slots := 3, locals := 0 } : Room).slots) := by
  refine MetFree.of_bodySF (plainFor_of_name pn_1) hisR ?_
  intro p e s m args below meth c s₁ Bd hml0 hP hK
  obtain ⟨rfl, hZ, hh⟩ := hP
  have hx := Bd.exec
  have hby := Bd.bytes
  have hret := Bd.returns
  have hlk := BodyLoose.notSynchronized Bd
  have hml : c.maxLocals = 1 := hml0
  have hown : s.vm.findClass "com/example/hop_mutex/hopmutex/transport/Frames" = some m.cls := findClass_of_methodNamed Bd.named
  have hnm := (name_of_methodNamed Bd.named Bd.method).1
  have X0 : Stand p l e ({ frames := 0, cells := 1, slots := 3, locals := 0 } : Room) s m #[(.int p0)] below meth c s₁ [] 0 0 := Stand.of_body Bd
  have e0 : s₁.heap = h0 := by rw [← hh, Bd.state]; rfl
  have N0 := Fr.nil n0
  show own_Ends p e below s ({ frames := 0, cells := 1, slots := 3, locals := 0 } : Room).cells ({ frames := 0, cells := 1, slots := 3, locals := 0 } : Room).slots (Q1 Z p0 h0 n0) (s₁.setTop (entryFrame m #[(.int p0)] 1))
  refine own_cast (ef_1 m p0) ?_
  show own_Ends p e below s _ _ _ (s₁.setTop (mkF m 0 #[.val (.int p0)] []))
  refine own_step (fun t k => XS.iconst X0.here hx rfl (hb hby d1_0) k) ?_
  show own_Ends p e below s _ _ _ (s₁.setTop (mkF m 1 #[.val (.int p0)] [(.int (3 : Int32))]))
  obtain ⟨T1, h1, X1, e1, E1, A1, st1⟩ := own_newI X0 hx hZ (hw _ (List.mem_of_getElem? (i := 4) rfl)) e0 (g := (mkF m 1 #[.val (.int p0)] [(.int (3 : Int32))])) rfl (hb hby d1_1) rfl (N := 3) (by decide) (by decide) (by decide) (by decide) rfl
  obtain ⟨b1, g1⟩ : ∃ z, z = h0.size := ⟨_, rfl⟩
  rw [← g1] at A1 st1
  have gn_b1 : n0 ≤ b1 := Nat.le_trans Z0 (Nat.le_of_eq g1.symm)
  have Z1 : n0 ≤ h1.size := Nat.le_trans Z0 E1.1
  refine own_step st1 ?_
  show own_Ends p e below s _ _ _ (T1.setTop (mkF m 3 #[.val (.int p0)] [(.ref b1)]))
  refine own_step (fun t k => XS.dup X1.here hx rfl (hb hby d1_3) rfl rfl k) ?_
  show own_Ends p e below s _ _ _ (T1.setTop (mkF m 4 #[.val (.int p0)] [(.ref b1), (.ref b1)]))
  refine own_step (fun t k => XS.iconst X1.here hx rfl (hb hby d1_4) k) ?_
  show own_Ends p e below s _ _ _ (T1.setTop (mkF m 5 #[.val (.int p0)] [(.int (0 : Int32)), (.ref b1), (.ref b1)]))
  refine own_step (fun t k => XS.iconst X1.here hx rfl (hb hby d1_5) k) ?_
  show own_Ends p e below s _ _ _ (T1.setTop (mkF m 6 #[.val (.int p0)] [(.int (3 : Int32)), (.int (0 : Int32)), (.ref b1), (.ref b1)]))
  obtain ⟨T2, h2, X2, e2, W2, A2, st2⟩ := own_stB X1 hx hZ e1 A1 0 (by decide) (by decide) (g := (mkF m 6 #[.val (.int p0)] [(.int (3 : Int32)), (.int (0 : Int32)), (.ref b1), (.ref b1)])) rfl rfl (hb hby d1_6)
  refine own_step st2 ?_
  have N2 := Fr.snoc X2 N0 gn_b1
  have Z2 : n0 ≤ h2.size := by rw [W2.size]; exact Z1
  show own_Ends p e below s _ _ _ (T2.setTop (mkF m 7 #[.val (.int p0)] [(.ref b1)]))
  refine own_step (fun t k => XS.dup X2.here hx rfl (hb hby d1_7) rfl rfl k) ?_
  show own_Ends p e below s _ _ _ (T2.setTop (mkF m 8 #[.val (.int p0)] [(.ref b1), (.ref b1)]))
  refine own_step (fun t k => XS.iconst X2.here hx rfl (hb hby d1_8) k) ?_
  show own_Ends p e below s _ _ _ (T2.setTop (mkF m 9 #[.val (.int p0)] [(.int (1 : Int32)), (.ref b1), (.ref b1)]))
  refine own_step (fun t k => XS.iloadN X2.here hx rfl (hb hby d1_9) rfl k) ?_
  show own_Ends p e below s _ _ _ (T2.setTop (mkF m 10 #[.val (.int p0)] [(.int p0), (.int (1 : Int32)), (.ref b1), (.ref b1)]))
  refine own_step (fun t k => XS.bipush X2.here hx rfl (hb hby d1_10) k) ?_
  show own_Ends p e below s _ _ _ (T2.setTop (mkF m 12 #[.val (.int p0)] [(.int (8 : Int32)), (.int p0), (.int (1 : Int32)), (.ref b1), (.ref b1)]))
  refine own_step (fun t k => XS.iushr X2.here hx rfl (hb hby d1_12) rfl k) ?_
  show own_Ends p e below s _ _ _ (T2.setTop (mkF m 13 #[.val (.int p0)] [(.int ((p0.toUInt32 >>> ((8 : Int32) &&& 31).toUInt32).toInt32)), (.int (1 : Int32)), (.ref b1), (.ref b1)]))
  refine own_step (fun t k => XS.i2b X2.here hx rfl (hb hby d1_13) rfl k) ?_
  show own_Ends p e below s _ _ _ (T2.setTop (mkF m 14 #[.val (.int p0)] [(.int (((p0.toUInt32 >>> ((8 : Int32) &&& 31).toUInt32).toInt32).toInt8.toInt32)), (.int (1 : Int32)), (.ref b1), (.ref b1)]))
  obtain ⟨T3, h3, X3, e3, W3, A3, st3⟩ := own_stB X2 hx hZ e2 A2 1 (by decide) (by decide) (g := (mkF m 14 #[.val (.int p0)] [(.int (((p0.toUInt32 >>> ((8 : Int32) &&& 31).toUInt32).toInt32).toInt8.toInt32)), (.int (1 : Int32)), (.ref b1), (.ref b1)])) rfl rfl (hb hby d1_14)
  refine own_step st3 ?_
  have N3 := Fr.snoc X3 N2 gn_b1
  have Z3 : n0 ≤ h3.size := by rw [W3.size]; exact Z2
  show own_Ends p e below s _ _ _ (T3.setTop (mkF m 15 #[.val (.int p0)] [(.ref b1)]))
  refine own_step (fun t k => XS.dup X3.here hx rfl (hb hby d1_15) rfl rfl k) ?_
  show own_Ends p e below s _ _ _ (T3.setTop (mkF m 16 #[.val (.int p0)] [(.ref b1), (.ref b1)]))
  refine own_step (fun t k => XS.iconst X3.here hx rfl (hb hby d1_16) k) ?_
  show own_Ends p e below s _ _ _ (T3.setTop (mkF m 17 #[.val (.int p0)] [(.int (2 : Int32)), (.ref b1), (.ref b1)]))
  refine own_step (fun t k => XS.iloadN X3.here hx rfl (hb hby d1_17) rfl k) ?_
  show own_Ends p e below s _ _ _ (T3.setTop (mkF m 18 #[.val (.int p0)] [(.int p0), (.int (2 : Int32)), (.ref b1), (.ref b1)]))
  refine own_step (fun t k => XS.i2b X3.here hx rfl (hb hby d1_18) rfl k) ?_
  show own_Ends p e below s _ _ _ (T3.setTop (mkF m 19 #[.val (.int p0)] [(.int (p0.toInt8.toInt32)), (.int (2 : Int32)), (.ref b1), (.ref b1)]))
  obtain ⟨T4, h4, X4, e4, W4, A4, st4⟩ := own_stB X3 hx hZ e3 A3 2 (by decide) (by decide) (g := (mkF m 19 #[.val (.int p0)] [(.int (p0.toInt8.toInt32)), (.int (2 : Int32)), (.ref b1), (.ref b1)])) rfl rfl (hb hby d1_19)
  refine own_step st4 ?_
  have N4 := Fr.snoc X4 N3 gn_b1
  have Z4 : n0 ≤ h4.size := by rw [W4.size]; exact Z3
  show own_Ends p e below s _ _ _ (T4.setTop (mkF m 20 #[.val (.int p0)] [(.ref b1)]))
  exact own_retA X4 hx hlk hret rfl rfl (hb hby d1_20) (by rw [e4]; exact ⟨_, rfl, N4, Z4, A4⟩) (by decide) (by decide)
def own_g (p0 : Int32) : Nat → Int32 := own_up (own_up (own_up (fun _ => 0) 0 ((3 : Int32).toInt8.toInt32)) 1 ((((p0.toUInt32 >>> ((8 : Int32) &&& 31).toUInt32).toInt32).toInt8.toInt32).toInt8.toInt32)) 2 ((p0.toInt8.toInt32).toInt8.toInt32)
theorem own_0 (p0 : Int32) : (own_g p0 0) = (3 : Int32) := by
  show (3 : Int32).toInt8.toInt32 = 3
  decide
theorem own_12 (p0 : Int32) : ((((own_g p0 1) &&& (255 : Int32)) <<< ((8 : Int32) &&& 31)) ||| ((own_g p0 2) &&& (255 : Int32))) = (p0 &&& (65535 : Int32)) := by
  have g1 : own_g p0 1 = ((((p0.toUInt32 >>> ((8 : Int32) &&& 31).toUInt32).toInt32).toInt8.toInt32).toInt8.toInt32) := rfl
  have g2 : own_g p0 2 = ((p0.toInt8.toInt32).toInt8.toInt32) := rfl
  have u := c_iushr p0 8 8 (by decide) (by decide)
  have b1 := (c_i2b ((p0.toUInt32 >>> ((8 : Int32) &&& 31).toUInt32).toInt32)).1
  have b2 := (c_i2b (((p0.toUInt32 >>> ((8 : Int32) &&& 31).toUInt32).toInt32).toInt8.toInt32)).1
  have b3 := (c_i2b p0).1
  have b4 := (c_i2b p0.toInt8.toInt32).1
  rw [← g1] at b2
  rw [← g2] at b4
  have m1 := c_mask (own_g p0 1) 255 8 (by decide) (by decide)
  have m2 := c_mask (own_g p0 2) 255 8 (by decide) (by decide)
  have s := c_ishl ((own_g p0 1) &&& (255 : Int32)) 8 8 (by decide)
  have rs := rng32 (((own_g p0 1) &&& (255 : Int32)) <<< ((8 : Int32) &&& 31))
  have o := c_or (((own_g p0 1) &&& (255 : Int32)) <<< ((8 : Int32) &&& 31)) ((own_g p0 2) &&& (255 : Int32)) 8 (by decide) 256 (by decide) (by omega) (by omega) (by omega)
  have ro := rng32 ((((own_g p0 1) &&& (255 : Int32)) <<< ((8 : Int32) &&& 31)) ||| ((own_g p0 2) &&& (255 : Int32)))
  have t := c_mask p0 65535 16 (by decide) (by decide)
  apply Int32.toInt_inj.mp
  omega
theorem pn_0 : plainName "com/example/hop_mutex/hopmutex/transport/FramesLostPinLaw" = true := by first | (simp [plainName, overriddenIn]; done) | decide +kernel
theorem ef_0 (m : MethodId) (p0 : Int32) : entryFrame m #[(.int p0)] maxLocals = mkF m 0 #[.val (.int p0), .unset, .unset] [] := by first | (simp [entryFrame, mkF, argsToLocals, Value.category, maxLocals]; done) | rfl
theorem pd0_0 : parseMethodDescriptor "(I)[B" = some ⟨[.int], some (.array .byte)⟩ := by decide +kernel
set_option maxRecDepth 65536 in
set_option maxHeartbeats 40000000 in
theorem rm0 (l : Launch) (Z : State) (a0 : Array Value) (hw : ∀ d ∈ tables_1, d.before a0 Z = true) (ws : List Jvm.Cond) (p0 : Int32) (h0 : Heap) (n0 : Nat) (Z0 : n0 ≤ h0.size) :
    MetFree l x (head1 (Jvm.Cond.code x code maxLocals ret :: ws) room_1) (fun a U => a = #[(.int p0)] ∧ Z.Warmed39 U.vm ∧ U.heap = h0) (fun _ _ _ _ _ => True) (fun _ U o U' => ∃ v L, o = .returned v ∧ (fun v h L => v = some (.int 1) ∧ Fr n0 L) v U'.heap L ∧ FrameEnd U o U' L 16 128) := by
  refine MetFree.of_bodySF (plainFor_of_name pn_0) hisR ?_
  intro p e s m args below meth c s₁ Bd hml0 hP hK
  obtain ⟨rfl, hZ, hh⟩ := hP
  have hx := Bd.exec
  have hby := Bd.bytes
  have hret := Bd.returns
  have hlk := BodyLoose.notSynchronized Bd
  have hml : c.maxLocals = 3 := hml0
  have hown : s.vm.findClass "com/example/hop_mutex/hopmutex/transport/FramesLostPinLaw" = some m.cls := findClass_of_methodNamed Bd.named
  have hnm := (name_of_methodNamed Bd.named Bd.method).1
  have X0 : Stand p l e room_1 s m #[(.int p0)] below meth c s₁ [] 0 0 := Stand.of_body Bd
  have e0 : s₁.heap = h0 := by rw [← hh, Bd.state]; rfl
  have N0 := Fr.nil n0
  show own_Ends p e below s 16 128 (fun v h L => v = some (.int 1) ∧ Fr n0 L) (s₁.setTop (entryFrame m #[(.int p0)] maxLocals))
  refine own_cast (ef_0 m p0) ?_
  show own_Ends p e below s _ _ _ (s₁.setTop (mkF m 0 #[.val (.int p0), .unset, .unset] []))
  refine own_step (fun t k => XS.iloadN X0.here hx rfl (hb hby at_0) rfl k) ?_
  show own_Ends p e below s _ _ _ (s₁.setTop (mkF m 1 #[.val (.int p0), .unset, .unset] [(.int p0)]))
  obtain ⟨_, _, ⟨T1, L1, k1, n1⟩, -, X1, ⟨Lc1, hQ1, l1, y1, z1⟩, st1⟩ := Jvm.LawKit.callS X0 hx (y := (⟨"com/example/hop_mutex/hopmutex/transport/Frames", "lost", "(I)[B"⟩ : MethodName)) hown (mvT hZ (hw _ (List.mem_of_getElem? (i := 0) rfl))) (mvT hZ (hw _ (List.mem_of_getElem? (i := 1) rfl))) (mvT hZ (hw _ (List.mem_of_getElem? (i := 2) rfl))) (mvT hZ (hw _ (List.mem_of_getElem? (i := 3) rfl))) (by decide) (backOf (W := 0) (rm1 l Z a0 hw [] p0 h0 n0 Z0) hZ (hw _ (List.mem_of_getElem? (i := 3) rfl)) (hw _ (List.mem_of_getElem? (i := 2) rfl)) (by decide) (by decide)) (g := (mkF m 1 #[.val (.int p0), .unset, .unset] [(.int p0)])) rfl (by rw [hml]; rfl) (argsL := [(.int p0)]) (rest := []) (lenOf pd0_0 rfl) rfl (by show 2 * 0 + _ ≤ _; exact Nat.le_of_eq rfl) (hb hby at_1) (fun _ _ => ⟨rfl, e0, (by decide : 0 + 1 ≤ _), (by decide : 0 + 3 ≤ _)⟩)
  dsimp only [Pt.U, Pt.locs, Pt.cells, Pt.slots] at X1 l1 y1 z1 st1 hQ1
  subst l1 y1 z1
  obtain ⟨r1, rfl, N1q, Z1, A1⟩ := hQ1
  have N1 := Fr.app N0 N1q
  have A1 : own_AI Z T1.heap r1 .byte 3 (own_g p0) := A1
  refine own_step st1 ?_
  show own_Ends p e below s _ _ _ (T1.setTop (mkF m 4 #[.val (.int p0), .unset, .unset] [(.ref r1)]))
  refine own_step (fun t k => XS.astoreN X1.here hx rfl (hb hby at_4) rfl rfl (l' := #[.val (.int p0), .val (.ref r1), .unset]) rfl k) ?_
  show own_Ends p e below s _ _ _ (T1.setTop (mkF m 5 #[.val (.int p0), .val (.ref r1), .unset] []))
  refine own_step (fun t k => XS.aloadN X1.here hx rfl (hb hby at_5) rfl rfl k) ?_
  show own_Ends p e below s _ _ _ (T1.setTop (mkF m 6 #[.val (.int p0), .val (.ref r1), .unset] [(.ref r1)]))
  refine own_step (fun t k => XS.ifnullNo X1.here hx rfl (hb hby at_6) rfl k) ?_
  show own_Ends p e below s _ _ _ (T1.setTop (mkF m 9 #[.val (.int p0), .val (.ref r1), .unset] []))
  refine own_step (fun t k => XS.aloadN X1.here hx rfl (hb hby at_9) rfl rfl k) ?_
  show own_Ends p e below s _ _ _ (T1.setTop (mkF m 10 #[.val (.int p0), .val (.ref r1), .unset] [(.ref r1)]))
  refine own_step (fun t k => own_lenI X1 hx hZ rfl A1 (z := (3 : Int32)) (by decide) (g := (mkF m 10 #[.val (.int p0), .val (.ref r1), .unset] [(.ref r1)])) rfl rfl (hb hby at_10) t k) ?_
  show own_Ends p e below s _ _ _ (T1.setTop (mkF m 11 #[.val (.int p0), .val (.ref r1), .unset] [(.int (3 : Int32))]))
  refine own_step (fun t k => XS.iconst X1.here hx rfl (hb hby at_11) k) ?_
  show own_Ends p e below s _ _ _ (T1.setTop (mkF m 12 #[.val (.int p0), .val (.ref r1), .unset] [(.int (3 : Int32)), (.int (3 : Int32))]))
  refine own_step (fun t k => XS.icmpYes X1.here hx rfl (pc0 := 12) (pc' := 17) rfl (hb hby at_12) rfl (teq rfl).1 (by decide) (by decide) k) ?_
  show own_Ends p e below s _ _ _ (T1.setTop (mkF m 17 #[.val (.int p0), .val (.ref r1), .unset] []))
  refine own_step (fun t k => XS.aloadN X1.here hx rfl (hb hby at_17) rfl rfl k) ?_
  show own_Ends p e below s _ _ _ (T1.setTop (mkF m 18 #[.val (.int p0), .val (.ref r1), .unset] [(.ref r1)]))
  refine own_step (fun t k => XS.iconst X1.here hx rfl (hb hby at_18) k) ?_
  show own_Ends p e below s _ _ _ (T1.setTop (mkF m 19 #[.val (.int p0), .val (.ref r1), .unset] [(.int (1 : Int32)), (.ref r1)]))
  refine own_step (fun t k => own_ldB X1 hx hZ rfl A1 1 (by decide) (by decide) (g := (mkF m 19 #[.val (.int p0), .val (.ref r1), .unset] [(.int (1 : Int32)), (.ref r1)])) rfl rfl (hb hby at_19) t k) ?_
  show own_Ends p e below s _ _ _ (T1.setTop (mkF m 20 #[.val (.int p0), .val (.ref r1), .unset] [(.int ((own_g p0) 1))]))
  refine own_step (fun t k => XS.sipush X1.here hx rfl (hb hby at_20) k) ?_
  show own_Ends p e below s _ _ _ (T1.setTop (mkF m 23 #[.val (.int p0), .val (.ref r1), .unset] [(.int (255 : Int32)), (.int ((own_g p0) 1))]))
  refine own_step (fun t k => XS.iand X1.here hx rfl (hb hby at_23) rfl k) ?_
  show own_Ends p e below s _ _ _ (T1.setTop (mkF m 24 #[.val (.int p0), .val (.ref r1), .unset] [(.int (((own_g p0) 1) &&& (255 : Int32)))]))
  refine own_step (fun t k => XS.bipush X1.here hx rfl (hb hby at_24) k) ?_
  show own_Ends p e below s _ _ _ (T1.setTop (mkF m 26 #[.val (.int p0), .val (.ref r1), .unset] [(.int (8 : Int32)), (.int (((own_g p0) 1) &&& (255 : Int32)))]))
  refine own_step (fun t k => XS.ishl X1.here hx rfl (hb hby at_26) rfl k) ?_
  show own_Ends p e below s _ _ _ (T1.setTop (mkF m 27 #[.val (.int p0), .val (.ref r1), .unset] [(.int ((((own_g p0) 1) &&& (255 : Int32)) <<< ((8 : Int32) &&& 31)))]))
  refine own_step (fun t k => XS.aloadN X1.here hx rfl (hb hby at_27) rfl rfl k) ?_
  show own_Ends p e below s _ _ _ (T1.setTop (mkF m 28 #[.val (.int p0), .val (.ref r1), .unset] [(.ref r1), (.int ((((own_g p0) 1) &&& (255 : Int32)) <<< ((8 : Int32) &&& 31)))]))
  refine own_step (fun t k => XS.iconst X1.here hx rfl (hb hby at_28) k) ?_
  show own_Ends p e below s _ _ _ (T1.setTop (mkF m 29 #[.val (.int p0), .val (.ref r1), .unset] [(.int (2 : Int32)), (.ref r1), (.int ((((own_g p0) 1) &&& (255 : Int32)) <<< ((8 : Int32) &&& 31)))]))
  refine own_step (fun t k => own_ldB X1 hx hZ rfl A1 2 (by decide) (by decide) (g := (mkF m 29 #[.val (.int p0), .val (.ref r1), .unset] [(.int (2 : Int32)), (.ref r1), (.int ((((own_g p0) 1) &&& (255 : Int32)) <<< ((8 : Int32) &&& 31)))])) rfl rfl (hb hby at_29) t k) ?_
  show own_Ends p e below s _ _ _ (T1.setTop (mkF m 30 #[.val (.int p0), .val (.ref r1), .unset] [(.int ((own_g p0) 2)), (.int ((((own_g p0) 1) &&& (255 : Int32)) <<< ((8 : Int32) &&& 31)))]))
  refine own_step (fun t k => XS.sipush X1.here hx rfl (hb hby at_30) k) ?_
  show own_Ends p e below s _ _ _ (T1.setTop (mkF m 33 #[.val (.int p0), .val (.ref r1), .unset] [(.int (255 : Int32)), (.int ((own_g p0) 2)), (.int ((((own_g p0) 1) &&& (255 : Int32)) <<< ((8 : Int32) &&& 31)))]))
  refine own_step (fun t k => XS.iand X1.here hx rfl (hb hby at_33) rfl k) ?_
  show own_Ends p e below s _ _ _ (T1.setTop (mkF m 34 #[.val (.int p0), .val (.ref r1), .unset] [(.int (((own_g p0) 2) &&& (255 : Int32))), (.int ((((own_g p0) 1) &&& (255 : Int32)) <<< ((8 : Int32) &&& 31)))]))
  refine own_step (fun t k => XS.ior X1.here hx rfl (hb hby at_34) rfl k) ?_
  show own_Ends p e below s _ _ _ (T1.setTop (mkF m 35 #[.val (.int p0), .val (.ref r1), .unset] [(.int (((((own_g p0) 1) &&& (255 : Int32)) <<< ((8 : Int32) &&& 31)) ||| (((own_g p0) 2) &&& (255 : Int32))))]))
  refine own_step (fun t k => XS.istoreN X1.here hx rfl (hb hby at_35) rfl (l' := #[.val (.int p0), .val (.ref r1), .val (.int (((((own_g p0) 1) &&& (255 : Int32)) <<< ((8 : Int32) &&& 31)) ||| (((own_g p0) 2) &&& (255 : Int32))))]) rfl k) ?_
  show own_Ends p e below s _ _ _ (T1.setTop (mkF m 36 #[.val (.int p0), .val (.ref r1), .val (.int (((((own_g p0) 1) &&& (255 : Int32)) <<< ((8 : Int32) &&& 31)) ||| (((own_g p0) 2) &&& (255 : Int32))))] []))
  refine own_step (fun t k => XS.aloadN X1.here hx rfl (hb hby at_36) rfl rfl k) ?_
  show own_Ends p e below s _ _ _ (T1.setTop (mkF m 37 #[.val (.int p0), .val (.ref r1), .val (.int (((((own_g p0) 1) &&& (255 : Int32)) <<< ((8 : Int32) &&& 31)) ||| (((own_g p0) 2) &&& (255 : Int32))))] [(.ref r1)]))
  refine own_step (fun t k => XS.iconst X1.here hx rfl (hb hby at_37) k) ?_
  show own_Ends p e below s _ _ _ (T1.setTop (mkF m 38 #[.val (.int p0), .val (.ref r1), .val (.int (((((own_g p0) 1) &&& (255 : Int32)) <<< ((8 : Int32) &&& 31)) ||| (((own_g p0) 2) &&& (255 : Int32))))] [(.int (0 : Int32)), (.ref r1)]))
  refine own_step (fun t k => own_ldB X1 hx hZ rfl A1 0 (by decide) (by decide) (g := (mkF m 38 #[.val (.int p0), .val (.ref r1), .val (.int (((((own_g p0) 1) &&& (255 : Int32)) <<< ((8 : Int32) &&& 31)) ||| (((own_g p0) 2) &&& (255 : Int32))))] [(.int (0 : Int32)), (.ref r1)])) rfl rfl (hb hby at_38) t k) ?_
  show own_Ends p e below s _ _ _ (T1.setTop (mkF m 39 #[.val (.int p0), .val (.ref r1), .val (.int (((((own_g p0) 1) &&& (255 : Int32)) <<< ((8 : Int32) &&& 31)) ||| (((own_g p0) 2) &&& (255 : Int32))))] [(.int ((own_g p0) 0))]))
  refine own_step (fun t k => XS.iconst X1.here hx rfl (hb hby at_39) k) ?_
  show own_Ends p e below s _ _ _ (T1.setTop (mkF m 40 #[.val (.int p0), .val (.ref r1), .val (.int (((((own_g p0) 1) &&& (255 : Int32)) <<< ((8 : Int32) &&& 31)) ||| (((own_g p0) 2) &&& (255 : Int32))))] [(.int (3 : Int32)), (.int ((own_g p0) 0))]))
  refine own_step (fun t k => XS.icmpNo X1.here hx rfl (hb hby at_40) rfl (teq (own_0 p0)).2 k) ?_
  show own_Ends p e below s _ _ _ (T1.setTop (mkF m 43 #[.val (.int p0), .val (.ref r1), .val (.int (((((own_g p0) 1) &&& (255 : Int32)) <<< ((8 : Int32) &&& 31)) ||| (((own_g p0) 2) &&& (255 : Int32))))] []))
  refine own_step (fun t k => XS.iloadN X1.here hx rfl (hb hby at_43) rfl k) ?_
  show own_Ends p e below s _ _ _ (T1.setTop (mkF m 44 #[.val (.int p0), .val (.ref r1), .val (.int (((((own_g p0) 1) &&& (255 : Int32)) <<< ((8 : Int32) &&& 31)) ||| (((own_g p0) 2) &&& (255 : Int32))))] [(.int (((((own_g p0) 1) &&& (255 : Int32)) <<< ((8 : Int32) &&& 31)) ||| (((own_g p0) 2) &&& (255 : Int32))))]))
  refine own_step (fun t k => XS.iloadN X1.here hx rfl (hb hby at_44) rfl k) ?_
  show own_Ends p e below s _ _ _ (T1.setTop (mkF m 45 #[.val (.int p0), .val (.ref r1), .val (.int (((((own_g p0) 1) &&& (255 : Int32)) <<< ((8 : Int32) &&& 31)) ||| (((own_g p0) 2) &&& (255 : Int32))))] [(.int p0), (.int (((((own_g p0) 1) &&& (255 : Int32)) <<< ((8 : Int32) &&& 31)) ||| (((own_g p0) 2) &&& (255 : Int32))))]))
  refine own_step (fun t k => X1.ldcInt hx hown (mvT hZ (hw _ (List.mem_of_getElem? (i := 5) rfl))) (g := (mkF m 45 #[.val (.int p0), .val (.ref r1), .val (.int (((((own_g p0) 1) &&& (255 : Int32)) <<< ((8 : Int32) &&& 31)) ||| (((own_g p0) 2) &&& (255 : Int32))))] [(.int p0), (.int (((((own_g p0) 1) &&& (255 : Int32)) <<< ((8 : Int32) &&& 31)) ||| (((own_g p0) 2) &&& (255 : Int32))))])) rfl (hb hby at_45) t k) ?_
  show own_Ends p e below s _ _ _ (T1.setTop (mkF m 47 #[.val (.int p0), .val (.ref r1), .val (.int (((((own_g p0) 1) &&& (255 : Int32)) <<< ((8 : Int32) &&& 31)) ||| (((own_g p0) 2) &&& (255 : Int32))))] [(.int (65535 : Int32)), (.int p0), (.int (((((own_g p0) 1) &&& (255 : Int32)) <<< ((8 : Int32) &&& 31)) ||| (((own_g p0) 2) &&& (255 : Int32))))]))
  refine own_step (fun t k => XS.iand X1.here hx rfl (hb hby at_47) rfl k) ?_
  show own_Ends p e below s _ _ _ (T1.setTop (mkF m 48 #[.val (.int p0), .val (.ref r1), .val (.int (((((own_g p0) 1) &&& (255 : Int32)) <<< ((8 : Int32) &&& 31)) ||| (((own_g p0) 2) &&& (255 : Int32))))] [(.int (p0 &&& (65535 : Int32))), (.int (((((own_g p0) 1) &&& (255 : Int32)) <<< ((8 : Int32) &&& 31)) ||| (((own_g p0) 2) &&& (255 : Int32))))]))
  refine own_step (fun t k => XS.icmpNo X1.here hx rfl (hb hby at_48) rfl (teq (own_12 p0)).2 k) ?_
  show own_Ends p e below s _ _ _ (T1.setTop (mkF m 51 #[.val (.int p0), .val (.ref r1), .val (.int (((((own_g p0) 1) &&& (255 : Int32)) <<< ((8 : Int32) &&& 31)) ||| (((own_g p0) 2) &&& (255 : Int32))))] []))
  refine own_step (fun t k => XS.iconst X1.here hx rfl (hb hby at_51) k) ?_
  show own_Ends p e below s _ _ _ (T1.setTop (mkF m 52 #[.val (.int p0), .val (.ref r1), .val (.int (((((own_g p0) 1) &&& (255 : Int32)) <<< ((8 : Int32) &&& 31)) ||| (((own_g p0) 2) &&& (255 : Int32))))] [(.int (1 : Int32))]))
  refine own_step (fun t k => XS.goto X1.here hx rfl (pc0 := 52) (pc' := 56) rfl (hb hby at_52) (by decide) (by decide) k) ?_
  show own_Ends p e below s _ _ _ (T1.setTop (mkF m 56 #[.val (.int p0), .val (.ref r1), .val (.int (((((own_g p0) 1) &&& (255 : Int32)) <<< ((8 : Int32) &&& 31)) ||| (((own_g p0) 2) &&& (255 : Int32))))] [(.int (1 : Int32))]))
  exact own_retN X1 hx hlk (t := .boolean) hret (by simp) (hb hby at_56) (w := (1 : Int32)) (by decide) ⟨rfl, N1⟩ (by decide) (by decide)
set_option maxRecDepth 65536 in
set_option maxHeartbeats 40000000 in
theorem comes_1 {Post : Tables → Env → Array Value → State → Outcome → State → Prop} (hpost : ∀ tb e args s v u, (limb_1_1.after args s (.returned v) u = true ∧ limb_1_2.after args s (.returned v) u = true ∧ True) → FrameEnd s (.returned v) u (Jvm.fieldLocs frame_1_writes args s ++ Jvm.arrayLocs frame_1_arrays args s ++ Jvm.staticLocs frame_1_statics s) 16 128 → Post tb e args s (.returned v) u) :
    ArmFor flags0 classFile x code maxLocals ret World_1 tables_1 room_1 Calls_1 rest_1 Pre_1 Post := by
  intro l hfl _ _ p e ha hc hk s m args below hf hA hF happ hP
  obtain ⟨hcalls, hrest, hpre⟩ := hP
  obtain ⟨-, -, -, hnamed, -, -, -, hat⟩ := (Spec.applies_iff hf).mp happ
  obtain ⟨hg, hn⟩ := and_e (Cond.before_iff.mp (show (Jvm.Cond.and given_1 narrow_1).before args s = true from hpre))
  obtain ⟨g0, hr0⟩ := and_e hg
  obtain ⟨w0, rfl⟩ : ∃ w0 : Value, args = #[w0] := by
    have hs : args.size = 1 := by simpa [Cond.value, given_1] using g0
    obtain ⟨L⟩ := args
    match L, hs with
    | [w0], _ => exact ⟨w0, rfl⟩
  have hw := fun d (hd : d ∈ tables_1) => atoms_spec (ws := Jvm.Cond.code x code maxLocals ret :: tables_1) hat d (List.mem_cons_of_mem _ hd)
  obtain ⟨i0, ei0⟩ := is_v hr0
  obtain rfl : w0 = (.int i0) := Option.some.inj ei0
  obtain ⟨n, o, h1, h2, h3, _, L, rfl, ⟨rfl, N⟩, hq⟩ := rm0 l s _ hw tables_1 i0 s.heap s.heap.size (Nat.le_refl _)  p e ha hc hk s m _ below hf ((Spec.applies_iff_loose hf).mp happ).1 ⟨rfl, State.Warmed39.refl s, rfl⟩ trivial
  refine ⟨n, _, h1, h2, h3, hpost _ _ _ _ _ _ ⟨Cond.after_iff.mpr rfl, Cond.after_iff.mpr (eq_i res_at (Term.int_eval (1)) rfl), trivial⟩ ⟨hq.1, hq.2.1, (hq.2.2.sift fun y hy => Or.inr (N y hy)).mono (by decide) (by decide)⟩⟩
theorem main_1_1 : Claimed_1_1 := comes_1 fun _ _ _ _ _ _ h hF => ⟨h.1, hF⟩
theorem main_1_2 : Claimed_1_2 := comes_1 fun _ _ _ _ _ _ h hF => ⟨h.2.1, hF⟩
end Jvm.Pilot.@@N@@
namespace Jvm.Pilot.@@N@@
open Jvm Jvm.ClassFile Sem Op Lib Jvm.Free Jvm.Stand Jvm.Pilot.@@N@@.Jvm.D
/-! MADE BY PROGRAM (witnessworld.py) out of the Statement's table words and the real class files: 9 classes; the members and pool entries that the words name. The judged class is class 1, her method 1. -/
namespace start1
open Jvm.ClassFile
def u (s : String) : CpInfo := .utf8 (stringToUtf16 s)
/-- a pool by its gaps: so many unusable entries, then the entry; so many at the end -/
def gap : Nat → List CpInfo → List CpInfo
  | 0, r => r
  | n + 1, r => .unusable :: gap n r
def poolList (es : List (Nat × CpInfo)) (last : Nat) : List CpInfo := es.foldr (fun e r => gap e.1 (e.2 :: r)) (gap last [])
def pool (es : List (Nat × CpInfo)) (last : Nat) : Array CpInfo := ⟨poolList es last⟩
def fileOf (pool : Array CpInfo) (this : Nat) (attrs : Array Attribute := #[]) (ms : Array MethodInfo := #[]) (fl : Nat := 33) (sup : Nat := 0) (ifs : Array Nat := #[]) (fds : Array FieldInfo := #[]) : ClassFile where
  minorVersion := 0
  majorVersion := 65
  constantPool := pool
  accessFlags := fl
  thisClass := this
  superClass := sup
  interfaces := ifs
  fields := fds
  methods := ms
  attributes := attrs
def plain (name : String) (sup : Option ClassId) : Class where
  name := name
  kind := .ordinary
  loader := none
  accessFlags := 33
  super := sup
  interfaces := #[]
  cf := none
  fields := #[]
  methods := #[]
  instanceTypes := #[]
  staticTypes := #[]
  resolved := #[]
  callSites := []
  init := .initialized
  statics := none
  mirror := none

def pool0 : Array CpInfo := pool [(5, u "<init>"), (0, u "()V"), (1, .class_ 10), (1, u "java/lang/Object")] 113

def k0m0 : Method := { name := "<init>", desc := "()V", sig := { parameters := [], returnType := none }, accessFlags := 1, code := none }
/-- java/lang/Object -/
def k0 : Class := { plain "java/lang/Object" none with
  accessFlags := 33
  interfaces := #[]
  cf := some (fileOf pool0 8 #[] #[{ accessFlags := 1, nameIndex := 5, descriptorIndex := 6, attributes := #[] }] 33 0 #[] #[])
  fields := #[]
  methods := #[k0m0]
  instanceTypes := #[]
  staticTypes := #[]
  resolved := Array.replicate 124 none
  statics := none }

def pool1 : Array CpInfo := pool [(2, .class_ 4), (1, u "java/lang/Object"), (0, u "<init>"), (0, u "()V"), (0, .methodref 8 9), (0, .class_ 10), (0, .nameAndType 11 12), (0, u "com/example/hop_mutex/hopmutex/transport/Frames"), (0, u "lost"), (0, u "(I)[B"), (0, .integer 65535), (0, .class_ 15), (0, u "com/example/hop_mutex/hopmutex/transport/FramesLostPinLaw"), (2, u "law"), (0, u "(I)Z")] 5

def k1m0 : Method := { name := "<init>", desc := "()V", sig := { parameters := [], returnType := none }, accessFlags := 2, code := none }
def k1c1 : Code := { maxStack := 3, maxLocals := 3, code := code, exceptionTable := #[], attributes := #[] }
def k1m1 : Method := { name := "law", desc := "(I)Z", sig := { parameters := [.int], returnType := some .boolean }, accessFlags := 9, code := some k1c1 }
/-- com/example/hop_mutex/hopmutex/transport/FramesLostPinLaw -/
def k1 : Class := { plain "com/example/hop_mutex/hopmutex/transport/FramesLostPinLaw" (some 0) with
  accessFlags := 49
  interfaces := #[]
  cf := some (fileOf pool1 14 #[] #[{ accessFlags := 2, nameIndex := 5, descriptorIndex := 6, attributes := #[] }, { accessFlags := 9, nameIndex := 18, descriptorIndex := 19, attributes := #[] }] 49 2 #[] #[])
  fields := #[]
  methods := #[k1m0, k1m1]
  instanceTypes := #[]
  staticTypes := #[]
  resolved := Array.replicate 25 none
  statics := none }

def pool2 : Array CpInfo := pool [(2, .class_ 4), (1, u "java/lang/Object"), (0, u "<init>"), (0, u "()V"), (121, .class_ 130), (1, u "com/example/hop_mutex/hopmutex/transport/Frames"), (0, u "MAGIC"), (0, u "[B"), (144, .class_ 279), (1, u "com/example/hop_mutex/hopmutex/transport/Frames$1"), (8, u "VERSION"), (0, u "I"), (2, u "DONE"), (0, u "HEARTBEAT"), (1, u "LOST"), (1, u "MAX_COUNTER"), (0, u "J"), (0, u "STAMPED"), (1, u "FENCED"), (14, u "lost"), (0, u "(I)[B")] 36

def k2m0 : Method := { name := "<init>", desc := "()V", sig := { parameters := [], returnType := none }, accessFlags := 2, code := none }
def k2c1 : Code := { maxStack := 5, maxLocals := 1, code := prog_49_method_5_code, exceptionTable := #[], attributes := #[] }
def k2m1 : Method := { name := "lost", desc := "(I)[B", sig := { parameters := [.int], returnType := some (.array .byte) }, accessFlags := 8, code := some k2c1 }
/-- com/example/hop_mutex/hopmutex/transport/Frames -/
def k2 : Class := { plain "com/example/hop_mutex/hopmutex/transport/Frames" (some 0) with
  accessFlags := 48
  interfaces := #[]
  cf := some (fileOf pool2 128 #[.nestMembers #[277]] #[{ accessFlags := 2, nameIndex := 5, descriptorIndex := 6, attributes := #[] }, { accessFlags := 8, nameIndex := 316, descriptorIndex := 317, attributes := #[] }] 48 2 #[] #[{ accessFlags := 24, nameIndex := 288, descriptorIndex := 289, attributes := #[] }, { accessFlags := 24, nameIndex := 292, descriptorIndex := 289, attributes := #[] }, { accessFlags := 24, nameIndex := 293, descriptorIndex := 289, attributes := #[] }, { accessFlags := 24, nameIndex := 295, descriptorIndex := 289, attributes := #[] }, { accessFlags := 24, nameIndex := 297, descriptorIndex := 298, attributes := #[] }, { accessFlags := 26, nameIndex := 299, descriptorIndex := 289, attributes := #[] }, { accessFlags := 26, nameIndex := 301, descriptorIndex := 289, attributes := #[] }, { accessFlags := 26, nameIndex := 131, descriptorIndex := 132, attributes := #[] }])
  fields := #[{ name := "VERSION", type := .int, accessFlags := 24, slot := 0, constantValue := 0 }, { name := "DONE", type := .int, accessFlags := 24, slot := 1, constantValue := 0 }, { name := "HEARTBEAT", type := .int, accessFlags := 24, slot := 2, constantValue := 0 }, { name := "LOST", type := .int, accessFlags := 24, slot := 3, constantValue := 0 }, { name := "MAX_COUNTER", type := .long, accessFlags := 24, slot := 4, constantValue := 0 }, { name := "STAMPED", type := .int, accessFlags := 26, slot := 5, constantValue := 0 }, { name := "FENCED", type := .int, accessFlags := 26, slot := 6, constantValue := 0 }, { name := "MAGIC", type := (.array .byte), accessFlags := 26, slot := 7, constantValue := 0 }]
  methods := #[k2m0, k2m1]
  instanceTypes := #[]
  staticTypes := #[.int, .int, .int, .int, .long, .int, .int, (.array .byte)]
  resolved := Array.replicate 354 none
  statics := none }

def pool3 : Array CpInfo := pool [(1, u "java/lang/Cloneable"), (0, .class_ 1), (0, u "java/lang/Object"), (0, .class_ 3)] 3

/-- java/lang/Cloneable -/
def k3 : Class := { plain "java/lang/Cloneable" (some 0) with
  accessFlags := 1537
  interfaces := #[]
  cf := some (fileOf pool3 2 #[] #[] 1537 4 #[] #[])
  fields := #[]
  methods := #[]
  instanceTypes := #[]
  staticTypes := #[]
  resolved := Array.replicate 8 none
  statics := none }

def pool4 : Array CpInfo := pool [(1, u "java/io/Serializable"), (0, .class_ 1), (0, u "java/lang/Object"), (0, .class_ 3)] 3

/-- java/io/Serializable -/
def k4 : Class := { plain "java/io/Serializable" (some 0) with
  accessFlags := 1537
  interfaces := #[]
  cf := some (fileOf pool4 2 #[] #[] 1537 4 #[] #[])
  fields := #[]
  methods := #[]
  instanceTypes := #[]
  staticTypes := #[]
  resolved := Array.replicate 8 none
  statics := none }

/-- the primitive byte -/
def k5 : Class := { plain "byte" none with kind := .primitive 'B', accessFlags := 0x411 }
/-- [B -/
def k6 : Class := { plain "[B" (some 0) with kind := .array 5 .byte, interfaces := #[3, 4], accessFlags := 1041 }

/-- the primitive int -/
def k7 : Class := { plain "int" none with kind := .primitive 'I', accessFlags := 0x411 }
/-- [I -/
def k8 : Class := { plain "[I" (some 0) with kind := .array 7 .int, interfaces := #[3, 4], accessFlags := 1041 }

def heap : Heap := #[]
def classes : Array Class := #[k0, k1, k2, k3, k4, k5, k6, k7, k8]
def interned : List (Array UInt16 × Addr) := []
def slotsUsed : Nat := 0
def theMethod : MethodId := ⟨1, 1⟩
def args0 : Array Value := #[.int 5]
def aboutOver (below : List Frame) : State where
  vm := { classes := classes, interned := interned.toArray }
  heap := heap
  slotsUsed := slotsUsed
  threads := #[{ frames := .invoking theMethod args0 :: below }]
def below0 : List Frame := [.native { method := ⟨0, 0⟩, args := #[] }]
def about1 : State := aboutOver below0
def p0 : Program := .bare "" "" ""
def e0 : Env := launch0.env 0 0 0
theorem w_frames : about1.frames = Frame.invoking theMethod args0 :: below0 := rfl
set_option maxRecDepth 65536 in
theorem w_args : argsFit about1.vm theMethod args0 = true := by decide +kernel
set_option maxRecDepth 65536 in
theorem w_heap : heapFits about1 = true := by decide +kernel
set_option maxRecDepth 65536 in
theorem w_runnable : about1.curStatus? = some .runnable := by decide +kernel
set_option maxRecDepth 65536 in
theorem w_alone : about1.alone = true := by decide +kernel
set_option maxRecDepth 65536 in
theorem w_named : about1.methodNamed? x = some theMethod := by decide +kernel
set_option maxRecDepth 65536 in
theorem w_hears : about1.hears theMethod below0 = true := by decide +kernel
set_option maxRecDepth 65536 in
theorem w_ripe : about1.ripe theMethod args0 below0 = true := by decide +kernel
theorem w_running : about1.status = .running := rfl
set_option maxRecDepth 65536 in
theorem w_room : about1.hasRoom e0.platform room_1 = true :=
  launch0.hasRoom_least _ room_1 (by decide +kernel) (by decide +kernel) (by decide +kernel) (by decide +kernel) (by decide +kernel) (by decide +kernel)
theorem allAtoms_all (ts : List Jvm.Cond) (a : Array Jvm.Value) (st : Jvm.State) : (allAtoms ts).before a st = ts.all (fun c => c.before a st) := by
  induction ts with
  | nil => rfl
  | cons c t ih =>
    show (Jvm.Cond.and c (allAtoms t)).before a st = _
    rw [Jvm.Cond.before_and, ih, List.all_cons]
def words1 : List Jvm.Cond := Jvm.Cond.code x code maxLocals ret :: tables_1
/-- a 'code' word, met by the world's own term for the bytes: nothing is compared byte by byte -/
theorem code_word {y : MethodName} {bytes : ByteArray} {mx : Nat} {rt : Option FieldType} {a : Array Value} {s : State} {m : MethodId} {meth : Method} {c : Code} (h1 : s.methodNamed? y = some m) (h2 : s.vm.method? m = some meth) (h3 : meth.code = some c) (h4 : c.code = bytes)
    (h5 : (c.maxLocals == mx && c.exceptionTable.isEmpty && decide (c.maxStack ≤ mostOperands) && decide (meth.sig.returnType = rt) && !meth.locks && decide (parseMethodDescriptor y.desc = some meth.sig)) = true) : (Jvm.Cond.code y bytes mx rt).before a s = true := by
  simp only [Bool.and_eq_true, beq_iff_eq, Bool.not_eq_true', decide_eq_true_eq] at h5
  obtain ⟨⟨⟨⟨⟨g1, g2⟩, g3⟩, g4⟩, g5⟩, g6⟩ := h5
  simp [Cond.before, Cond.holds, Cond.value, h1, h2, h3, h4, g1, g2, g3, g4, g5, g6]
def isCode : Jvm.Cond → Bool
  | .code _ _ _ _ => true
  | _ => false
theorem all_split {L : List Jvm.Cond} {P : Jvm.Cond → Bool} (h1 : L.all (fun c => isCode c || P c) = true) (h2 : ∀ c ∈ L.filter isCode, P c = true) : L.all P = true := by
  refine List.all_eq_true.mpr fun c hc => ?_
  have h := List.all_eq_true.mp h1 c hc
  rcases Bool.eq_false_or_eq_true (isCode c) with hi | hi
  · exact h2 c (List.mem_filter.mpr ⟨hc, hi⟩)
  · simpa [hi] using h
set_option maxRecDepth 65536 in
theorem w_c0 : (Jvm.Cond.code x code maxLocals ret).before args0 about1 = true := code_word (m := ⟨1, 1⟩) (meth := k1m1) (c := k1c1) (by decide +kernel) rfl rfl rfl (by decide +kernel)
set_option maxRecDepth 65536 in
theorem w_c1 : (Jvm.Cond.code ({ cls := "com/example/hop_mutex/hopmutex/transport/Frames", name := "lost", desc := "(I)[B" } : Jvm.MethodName) prog_49_method_5_code (1 : Nat) (Option.some (Jvm.ClassFile.FieldType.array Jvm.ClassFile.FieldType.byte))).before args0 about1 = true := code_word (m := ⟨2, 1⟩) (meth := k2m1) (c := k2c1) (by decide +kernel) rfl rfl rfl (by decide +kernel)
def codes1 : List Jvm.Cond := [Jvm.Cond.code x code maxLocals ret, Jvm.Cond.code ({ cls := "com/example/hop_mutex/hopmutex/transport/Frames", name := "lost", desc := "(I)[B" } : Jvm.MethodName) prog_49_method_5_code (1 : Nat) (Option.some (Jvm.ClassFile.FieldType.array Jvm.ClassFile.FieldType.byte))]
set_option maxRecDepth 65536 in
theorem codes_eq : words1.filter isCode = codes1 := rfl
theorem w_codes : ∀ c ∈ words1.filter isCode, c.before args0 about1 = true := by
  rw [codes_eq]
  intro c hc
  simp only [codes1, List.mem_cons, List.not_mem_nil, or_false] at hc
  rcases hc with rfl | rfl
  · exact w_c0
  · exact w_c1
set_option maxRecDepth 65536 in
theorem w_t1 : words1.all (fun c => isCode c || c.before args0 about1) = true := by decide +kernel
theorem w_tables : (allAtoms (Jvm.Cond.code x code maxLocals ret :: tables_1)).before args0 about1 = true := by
  rw [allAtoms_all]
  show words1.all (fun c => c.before args0 about1) = true
  refine all_split ?_ w_codes
  rw [w_t1]
set_option maxRecDepth 65536 in
theorem w_case : (Jvm.Cond.and given_1 narrow_1).before args0 about1 = true := by decide +kernel
theorem w_applies : (headSpec (Jvm.Cond.code x code maxLocals ret :: tables_1) room_1).applies x e0.platform about1 = true :=
  (Spec.applies_iff w_frames).mpr ⟨w_running, w_runnable, w_alone, w_named, w_hears, w_ripe, w_room, w_tables⟩
theorem atStart : AtStart classFile x code maxLocals ret World_1 tables_1 room_1 Calls_1 rest_1 Pre_1 launch0 p0 e0 about1 theMethod args0 below0 :=
  ⟨lists_1, trivial, launch0.admits_env _ _ _, launch0.least_env, fairChoices_fair.cas, fairChoices_fair.clock, w_frames, w_args, w_heap, w_applies, trivial, trivial, w_case⟩
end start1
theorem witness_1 : WitnessClaimed_1 := ⟨start1.p0, start1.e0, start1.about1, start1.theMethod, start1.args0, start1.below0, start1.atStart⟩
end Jvm.Pilot.@@N@@
