import JvmDerived
import JvmDerived.Pilot.@@N@@Statement
import JvmDerived.Pilot.@@N@@Code
set_option linter.unusedVariables false
set_option linter.unusedSimpArgs false
namespace Jvm.Pilot.@@N@@
open Jvm Jvm.ClassFile Sem Op Lib Jvm.Free Jvm.Stand Jvm.LawKit Jvm.RoadKit Bundle Jvm.Pilot.@@N@@.Jvm.D
section OwnKit
variable {p : Program} {l : Launch} {e : Env} {R : Room} {s : State} {m : MethodId} {args : Array Value} {below : List Frame} {meth : Method} {c : Code} {T : State} {locs : List Loc} {cells slots : Nat} {Z : State} {h h' : Heap} {a b : Addr} {kc ks : Nat} {Q : Option Value → Heap → List Loc → Prop}
/-- from U the run comes to the method's end, and Q says what is left there -/
def own_Ends (p : Program) (e : Env) (below : List Frame) (s : State) (kc ks : Nat) (Q : Option Value → Heap → List Loc → Prop) (U : State) : Prop :=
  ∃ s₂ o, Steps p.tables e below U s₂ ∧ s₂.status = .running ∧ Ended s₂ below o ∧ ∃ v L, o = .returned v ∧ Q v s₂.heap L ∧ FrameEnd s o s₂ L kc ks
theorem own_step {U U' : State} (k1 : ∀ t, Steps p.tables e below U' t → Steps p.tables e below U t) (k2 : own_Ends p e below s kc ks Q U') : own_Ends p e below s kc ks Q U := by
  obtain ⟨s₂, o, h1, r⟩ := k2
  exact ⟨s₂, o, k1 _ h1, r⟩
theorem own_cast {g g' : JFrame} (q : g = g') (k : own_Ends p e below s kc ks Q (T.setTop g')) : own_Ends p e below s kc ks Q (T.setTop g) := q ▸ k
theorem own_ret0 (X : Stand p l e R s m args below meth c T locs cells slots) (hx : p.tables.exec = Jvm.exec) (hlk : meth.locks = false) (hret : meth.sig.returnType = none) {pc : Nat} {Ls : Array Slot}
    (hd : decode c.code pc = .ok (.return_, 1)) (hq : Q none T.heap locs) (hk : cells ≤ kc) (hn : slots ≤ ks) : own_Ends p e below s kc ks Q (T.setTop (mkF m pc Ls [])) := by
  obtain ⟨fs, hr, hrun, hended, hW, hsame⟩ := X.leave (v := none) (fun _ => rfl) hlk
  exact ⟨_, _, X.returnOut hx hret hd hr, hrun, hended, _, _, rfl, hq, ⟨_, rfl⟩, hW, hsame.mono hk hn⟩
theorem own_retN (X : Stand p l e R s m args below meth c T locs cells slots) (hx : p.tables.exec = Jvm.exec) (hlk : meth.locks = false) {t : FieldType} (hret : meth.sig.returnType = some t) (ht : t = .boolean ∨ t = .byte ∨ t = .char ∨ t = .short) {pc : Nat} {Ls : Array Slot} {z : Int32} {rest : List Value}
    (hd : decode c.code pc = .ok (.ireturn, 1)) {w : Int32} (hw : nar t z = w) (hq : Q (some (.int w)) T.heap locs) (hk : cells ≤ kc) (hn : slots ≤ ks) : own_Ends p e below s kc ks Q (T.setTop (mkF m pc Ls (.int z :: rest))) := by
  subst hw
  obtain ⟨fs, hr, hrun, hended, hW, hsame⟩ := X.leave (v := some (.int (nar t z))) (fun h => by rw [hret] at h; cases h) hlk
  exact ⟨_, _, retN X hx hret ht hd hr, hrun, hended, _, _, rfl, hq, ⟨_, rfl⟩, hW, hsame.mono hk hn⟩
theorem own_retI (X : Stand p l e R s m args below meth c T locs cells slots) (hx : p.tables.exec = Jvm.exec) (hlk : meth.locks = false) (hret : meth.sig.returnType = some .int) {pc : Nat} {Ls : Array Slot} {z : Int32} {rest : List Value}
    (hd : decode c.code pc = .ok (.ireturn, 1)) (hq : Q (some (.int z)) T.heap locs) (hk : cells ≤ kc) (hn : slots ≤ ks) : own_Ends p e below s kc ks Q (T.setTop (mkF m pc Ls (.int z :: rest))) := by
  obtain ⟨fs, hr, hrun, hended, hW, hsame⟩ := X.leave (v := some (.int z)) (fun h => by rw [hret] at h; cases h) hlk
  exact ⟨_, _, retOut X hx hret rfl (Or.inl ⟨rfl, Or.inl rfl, _, rfl⟩) hd hr, hrun, hended, _, _, rfl, hq, ⟨_, rfl⟩, hW, hsame.mono hk hn⟩
theorem own_retL (X : Stand p l e R s m args below meth c T locs cells slots) (hx : p.tables.exec = Jvm.exec) (hlk : meth.locks = false) (hret : meth.sig.returnType = some .long) {pc : Nat} {Ls : Array Slot} {z : Int64} {rest : List Value}
    (hd : decode c.code pc = .ok (.lreturn, 1)) (hq : Q (some (.long z)) T.heap locs) (hk : cells ≤ kc) (hn : slots ≤ ks) : own_Ends p e below s kc ks Q (T.setTop (mkF m pc Ls (.long z :: rest))) := by
  obtain ⟨fs, hr, hrun, hended, hW, hsame⟩ := X.leave (v := some (.long z)) (fun h => by rw [hret] at h; cases h) hlk
  exact ⟨_, _, retOut X hx hret rfl (Or.inr (Or.inl ⟨rfl, rfl, _, rfl⟩)) hd hr, hrun, hended, _, _, rfl, hq, ⟨_, rfl⟩, hW, hsame.mono hk hn⟩
theorem own_retA (X : Stand p l e R s m args below meth c T locs cells slots) (hx : p.tables.exec = Jvm.exec) (hlk : meth.locks = false) {t : FieldType} (hret : meth.sig.returnType = some t) {pc : Nat} {Ls : Array Slot} {z : Addr} {rest : List Value} (ht : t.isReference = true) (hnw : narrow t (.ref z) = .ref z)
    (hd : decode c.code pc = .ok (.areturn, 1)) (hq : Q (some (.ref z)) T.heap locs) (hk : cells ≤ kc) (hn : slots ≤ ks) : own_Ends p e below s kc ks Q (T.setTop (mkF m pc Ls (.ref z :: rest))) := by
  obtain ⟨fs, hr, hrun, hended, hW, hsame⟩ := X.leave (v := some (.ref z)) (fun h => by rw [hret] at h; cases h) hlk
  exact ⟨_, _, retOut X hx hret hnw (Or.inr (Or.inr (Or.inr (Or.inr ⟨rfl, ht, rfl⟩)))) hd hr, hrun, hended, _, _, rfl, hq, ⟨_, rfl⟩, hW, hsame.mono hk hn⟩
theorem own_lrem {g : JFrame} {target : State} (X : Stand p l e R s m args below meth c T locs cells slots) (hx : p.tables.exec = Jvm.exec) (hg : g.method = m) {x y : Int64} {rest : List Value} (hd : decode c.code g.pc = .ok (.lrem, 1)) (hs : g.stack = .long y :: .long x :: rest) (hy : y ≠ 0)
    (hr : Steps p.tables e below (T.setTop { g with pc := g.pc + 1, stack := .long (x % y) :: rest }) target) : Steps p.tables e below (T.setTop g) target := by
  have q : x - x / y * y = x % y := lrem_mod x y
  exact XS.lrem X.here hx hg hd hs hy (by rw [q]; exact hr)
theorem own_pop2L {g : JFrame} {target : State} (X : Stand p l e R s m args below meth c T locs cells slots) (hx : p.tables.exec = Jvm.exec) (hg : g.method = m) {x : Int64} {rest : List Value} (hd : decode c.code g.pc = .ok (.pop2, 1)) (hs : g.stack = .long x :: rest)
    (hr : Steps p.tables e below (T.setTop { g with pc := g.pc + 1, stack := rest }) target) : Steps p.tables e below (T.setTop g) target := by
  subst hg
  jvm_step X.here [X.here.top, hx, hd, hs, Value.category]
  exact hr
theorem own_swHit {g : JFrame} {target : State} (X : Stand p l e R s m args below meth c T locs cells slots) (hx : p.tables.exec = Jvm.exec) (hg : g.method = m) {k : Int32} {rest : List Value} (hs : g.stack = .int k :: rest) {dflt : Int} {pairs : Array (Int × Int)} {len : Nat} (hd : decode c.code g.pc = .ok (.lookupswitch dflt pairs, len))
    (hsorted : (pairs.toList.zip (pairs.toList.drop 1)).all (fun (a, next) => a.1 < next.1) = true) {a off : Int} (hfind : pairs.find? (·.1 == k.toInt) = some (a, off)) {pc0 pc' : Nat} (hpc : g.pc = pc0) (ho : 0 ≤ (pc0 : Int) + off) (hp : ((pc0 : Int) + off).toNat = pc')
    (hr : Steps p.tables e below (T.setTop { g with pc := pc', stack := rest }) target) : Steps p.tables e below (T.setTop g) target := by
  subst hpc
  subst hp
  exact X.lookupswitchHit hx hg hs hd hsorted hfind ho target hr
theorem own_swMiss {g : JFrame} {target : State} (X : Stand p l e R s m args below meth c T locs cells slots) (hx : p.tables.exec = Jvm.exec) (hg : g.method = m) {k : Int32} {rest : List Value} (hs : g.stack = .int k :: rest) {dflt : Int} {pairs : Array (Int × Int)} {len : Nat} (hd : decode c.code g.pc = .ok (.lookupswitch dflt pairs, len))
    (hsorted : (pairs.toList.zip (pairs.toList.drop 1)).all (fun (a, next) => a.1 < next.1) = true) (hfind : pairs.find? (·.1 == k.toInt) = none) {pc0 pc' : Nat} (hpc : g.pc = pc0) (ho : 0 ≤ (pc0 : Int) + dflt) (hp : ((pc0 : Int) + dflt).toNat = pc')
    (hr : Steps p.tables e below (T.setTop { g with pc := pc', stack := rest }) target) : Steps p.tables e below (T.setTop g) target := by
  subst hpc
  subst hp
  exact X.lookupswitchMiss hx hg hs hd hsorted hfind ho target hr
/-! arrays, by what each place holds -/
def own_up {α : Type} (f : Nat → α) (i : Nat) (x : α) : Nat → α := fun k => if k = i then x else f k
def own_AI (Z : State) (h : Heap) (a : Addr) (ty : FieldType) (n : Nat) (f : Nat → Int32) : Prop := ∃ c : Cell, Arr Z h a c ty ∧ c.slots.size = n ∧ ∀ k, k < n → c.slots[k]? = some (.int (f k))
def own_AJ (Z : State) (h : Heap) (a : Addr) (n : Nat) (f : Nat → Int64) : Prop := ∃ c : Cell, Arr Z h a c .long ∧ c.slots.size = n ∧ ∀ k, k < n → c.slots[k]? = some (.long (f k))
theorem own_AI.lt {ty : FieldType} {n : Nat} {f : Nat → Int32} (A : own_AI Z h a ty n f) : a < h.size := by obtain ⟨c, A, -⟩ := A; exact A.lt
theorem own_AI.ext {ty : FieldType} {n : Nat} {f : Nat → Int32} (A : own_AI Z h a ty n f) (E : Ext h h') : own_AI Z h' a ty n f := by obtain ⟨c, A, r⟩ := A; exact ⟨c, A.ext E, r⟩
theorem own_AI.other {ty : FieldType} {n : Nat} {f : Nat → Int32} {sl : Nat} {v : Value} (A : own_AI Z h b ty n f) (W : Wr h h' a sl v) (q : b ≠ a) : own_AI Z h' b ty n f := by obtain ⟨c, A, r⟩ := A; exact ⟨c, A.other W q, r⟩
theorem own_AI.keep {ty : FieldType} {n : Nat} {f : Nat → Int32} {ws : List Addr} (A : own_AI Z h a ty n f) (K : Keep h h' ws) (q : a ∉ ws) : own_AI Z h' a ty n f := by obtain ⟨c, A, r⟩ := A; exact ⟨c, ⟨K.2.1 a c A.1 q, A.2⟩, r⟩
theorem own_AJ.lt {n : Nat} {f : Nat → Int64} (A : own_AJ Z h a n f) : a < h.size := by obtain ⟨c, A, -⟩ := A; exact A.lt
theorem own_AJ.ext {n : Nat} {f : Nat → Int64} (A : own_AJ Z h a n f) (E : Ext h h') : own_AJ Z h' a n f := by obtain ⟨c, A, r⟩ := A; exact ⟨c, A.ext E, r⟩
theorem own_idx {j : Int32} {i n : Nat} {cl : Cell} (hi : j.toInt = (i : Int)) (hn : i < n) (hs : cl.slots.size = n) : ¬ (j < 0 ∨ cl.slots.size ≤ j.toNatClampNeg) ∧ j.toNatClampNeg = i := by
  have e : j.toNatClampNeg = i := by
    show j.toInt.toNat = i
    omega
  refine ⟨?_, e⟩
  rw [e, hs]
  intro q
  rcases q with q | q
  · rw [Int32.lt_iff_toInt_lt, hi] at q
    have z : (0 : Int32).toInt = 0 := by decide
    omega
  · omega
theorem own_set {n : Nat} {cl : Cell} {i : Nat} {v : Value} {g : Nat → Value} (hs : cl.slots.size = n) (hn : i < n) (hf : ∀ k, k < n → cl.slots[k]? = some (g k)) : (cl.setSlot i v).slots.size = n ∧ ∀ k, k < n → (cl.setSlot i v).slots[k]? = some (if k = i then v else g k) := by
  refine ⟨by rw [sz_set]; exact hs, fun k hk => ?_⟩
  by_cases q : k = i
  · subst q; simp [Cell.setSlot, hs, hn]
  · have : (cl.setSlot i v).slots[k]? = cl.slots[k]? := Array.getElem?_setIfInBounds_ne (fun z => q z.symm)
    rw [this, hf k hk, if_neg q]
theorem own_stI (X : Stand p l e R s m args below meth c T locs cells slots) (hx : p.tables.exec = Jvm.exec) (hZ : Z.Warmed39 s.vm) (eT : T.heap = h) {n : Nat} {f : Nat → Int32} (A : own_AI Z h a .int n f) {j x : Int32} (i : Nat) (hi : j.toInt = (i : Int)) (hn : i < n) {g : JFrame} (hg : g.method = m) {rest : List Value} (hs : g.stack = .int x :: .int j :: .ref a :: rest) (hd : decode c.code g.pc = .ok (.iastore, 1)) :
    ∃ T' h', Stand p l e R s m args below meth c T' (locs ++ [⟨a, i⟩]) cells slots ∧ T'.heap = h' ∧ Wr h h' a i (.int x) ∧ own_AI Z h' a .int n (own_up f i x) ∧ ∀ target, Steps p.tables e below (T'.setTop { g with pc := g.pc + 1, stack := rest }) target → Steps p.tables e below (T.setTop g) target := by
  obtain ⟨cl, A1, A2, A3⟩ := A
  obtain ⟨q1, q2⟩ := own_idx hi hn A2
  obtain ⟨T', h', X', e', W, st⟩ := stI X hx hZ eT A1 q1 hg hs hd
  rw [q2] at X' W
  obtain ⟨r1, r2⟩ := own_set (v := .int x) A2 hn A3
  refine ⟨T', h', X', e', W, ⟨cl.setSlot i (.int x), A1.same W, r1, fun k hk => ?_⟩, st⟩
  rw [r2 k hk]
  by_cases q : k = i
  · simp [own_up, q]
  · simp [own_up, q]
theorem own_stB (X : Stand p l e R s m args below meth c T locs cells slots) (hx : p.tables.exec = Jvm.exec) (hZ : Z.Warmed39 s.vm) (eT : T.heap = h) {n : Nat} {f : Nat → Int32} (A : own_AI Z h a .byte n f) {j x : Int32} (i : Nat) (hi : j.toInt = (i : Int)) (hn : i < n) {g : JFrame} (hg : g.method = m) {rest : List Value} (hs : g.stack = .int x :: .int j :: .ref a :: rest) (hd : decode c.code g.pc = .ok (.bastore, 1)) :
    ∃ T' h', Stand p l e R s m args below meth c T' (locs ++ [⟨a, i⟩]) cells slots ∧ T'.heap = h' ∧ Wr h h' a i (.int (x.toInt8.toInt32)) ∧ own_AI Z h' a .byte n (own_up f i (x.toInt8.toInt32)) ∧ ∀ target, Steps p.tables e below (T'.setTop { g with pc := g.pc + 1, stack := rest }) target → Steps p.tables e below (T.setTop g) target := by
  obtain ⟨cl, A1, A2, A3⟩ := A
  obtain ⟨q1, q2⟩ := own_idx hi hn A2
  obtain ⟨T', h', X', e', W, st⟩ := stB X hx hZ eT A1 q1 hg hs hd
  rw [q2] at X' W
  obtain ⟨r1, r2⟩ := own_set (v := .int (x.toInt8.toInt32)) A2 hn A3
  refine ⟨T', h', X', e', W, ⟨cl.setSlot i (.int (x.toInt8.toInt32)), A1.same W, r1, fun k hk => ?_⟩, st⟩
  rw [r2 k hk]
  by_cases q : k = i
  · simp [own_up, q]
  · simp [own_up, q]
theorem own_stJ (X : Stand p l e R s m args below meth c T locs cells slots) (hx : p.tables.exec = Jvm.exec) (hZ : Z.Warmed39 s.vm) (eT : T.heap = h) {n : Nat} {f : Nat → Int64} (A : own_AJ Z h a n f) {j : Int32} {x : Int64} (i : Nat) (hi : j.toInt = (i : Int)) (hn : i < n) {g : JFrame} (hg : g.method = m) {rest : List Value} (hs : g.stack = .long x :: .int j :: .ref a :: rest) (hd : decode c.code g.pc = .ok (.lastore, 1)) :
    ∃ T' h', Stand p l e R s m args below meth c T' (locs ++ [⟨a, i⟩]) cells slots ∧ T'.heap = h' ∧ Wr h h' a i (.long x) ∧ own_AJ Z h' a n (own_up f i x) ∧ ∀ target, Steps p.tables e below (T'.setTop { g with pc := g.pc + 1, stack := rest }) target → Steps p.tables e below (T.setTop g) target := by
  obtain ⟨cl, A1, A2, A3⟩ := A
  obtain ⟨q1, q2⟩ := own_idx hi hn A2
  obtain ⟨T', h', X', e', W, st⟩ := stJ X hx hZ eT A1 q1 hg hs hd
  rw [q2] at X' W
  obtain ⟨r1, r2⟩ := own_set (v := .long x) A2 hn A3
  refine ⟨T', h', X', e', W, ⟨cl.setSlot i (.long x), A1.same W, r1, fun k hk => ?_⟩, st⟩
  rw [r2 k hk]
  by_cases q : k = i
  · simp [own_up, q]
  · simp [own_up, q]
theorem own_ldI (X : Stand p l e R s m args below meth c T locs cells slots) (hx : p.tables.exec = Jvm.exec) (hZ : Z.Warmed39 s.vm) (eT : T.heap = h) {n : Nat} {f : Nat → Int32} (A : own_AI Z h a .int n f) {j : Int32} (i : Nat) (hi : j.toInt = (i : Int)) (hn : i < n) {g : JFrame} (hg : g.method = m) {rest : List Value} (hs : g.stack = .int j :: .ref a :: rest) (hd : decode c.code g.pc = .ok (.iaload, 1)) :
    ∀ target, Steps p.tables e below (T.setTop { g with pc := g.pc + 1, stack := .int (f i) :: rest }) target → Steps p.tables e below (T.setTop g) target := by
  obtain ⟨cl, A1, A2, A3⟩ := A
  obtain ⟨q1, q2⟩ := own_idx hi hn A2
  exact X.iaload hx (j := j) (v := .int (f i)) (by rw [eT]; exact A1.1) (State.isArrayOf_alike hZ.alike A1.2.1) A1.2.2 q1 (by rw [q2]; exact A3 i hn) hg hs hd
theorem own_ldB (X : Stand p l e R s m args below meth c T locs cells slots) (hx : p.tables.exec = Jvm.exec) (hZ : Z.Warmed39 s.vm) (eT : T.heap = h) {n : Nat} {f : Nat → Int32} (A : own_AI Z h a .byte n f) {j : Int32} (i : Nat) (hi : j.toInt = (i : Int)) (hn : i < n) {g : JFrame} (hg : g.method = m) {rest : List Value} (hs : g.stack = .int j :: .ref a :: rest) (hd : decode c.code g.pc = .ok (.baload, 1)) :
    ∀ target, Steps p.tables e below (T.setTop { g with pc := g.pc + 1, stack := .int (f i) :: rest }) target → Steps p.tables e below (T.setTop g) target := by
  obtain ⟨cl, A1, A2, A3⟩ := A
  obtain ⟨q1, q2⟩ := own_idx hi hn A2
  exact X.baloadBytes hx (j := j) (v := .int (f i)) (by rw [eT]; exact A1.1) (State.isArrayOf_alike hZ.alike A1.2.1) A1.2.2 q1 (by rw [q2]; exact A3 i hn) hg hs hd
theorem own_ldJ (X : Stand p l e R s m args below meth c T locs cells slots) (hx : p.tables.exec = Jvm.exec) (hZ : Z.Warmed39 s.vm) (eT : T.heap = h) {n : Nat} {f : Nat → Int64} (A : own_AJ Z h a n f) {j : Int32} (i : Nat) (hi : j.toInt = (i : Int)) (hn : i < n) {g : JFrame} (hg : g.method = m) {rest : List Value} (hs : g.stack = .int j :: .ref a :: rest) (hd : decode c.code g.pc = .ok (.laload, 1)) :
    ∀ target, Steps p.tables e below (T.setTop { g with pc := g.pc + 1, stack := .long (f i) :: rest }) target → Steps p.tables e below (T.setTop g) target := by
  obtain ⟨cl, A1, A2, A3⟩ := A
  obtain ⟨q1, q2⟩ := own_idx hi hn A2
  exact X.laload hx (j := j) (v := .long (f i)) (by rw [eT]; exact A1.1) (State.isArrayOf_alike hZ.alike A1.2.1) A1.2.2 q1 (by rw [q2]; exact A3 i hn) hg hs hd
theorem own_lenI (X : Stand p l e R s m args below meth c T locs cells slots) (hx : p.tables.exec = Jvm.exec) (hZ : Z.Warmed39 s.vm) (eT : T.heap = h) {ty : FieldType} {n : Nat} {f : Nat → Int32} (A : own_AI Z h a ty n f) {z : Int32} (hz : n.toInt32 = z) {g : JFrame} (hg : g.method = m) {rest : List Value} (hs : g.stack = .ref a :: rest) (hd : decode c.code g.pc = .ok (.arraylength, 1)) :
    ∀ target, Steps p.tables e below (T.setTop { g with pc := g.pc + 1, stack := .int z :: rest }) target → Steps p.tables e below (T.setTop g) target := by
  obtain ⟨cl, A1, A2, A3⟩ := A
  intro t k
  refine X.arraylength hx (by rw [eT]; exact A1.1) (State.isArrayOf_alike hZ.alike A1.2.1) hg hs hd t ?_
  rw [A2, hz]; exact k
theorem own_newI (X : Stand p l e R s m args below meth c T locs cells slots) (hx : p.tables.exec = Jvm.exec) (hZ : Z.Warmed39 s.vm) {a0 : Array Value} {aty : ArrayType} (w : (Cond.arrayClass (newarray.typeOf aty)).before a0 Z = true) (eT : T.heap = h) {g : JFrame} (hg : g.method = m) (hd : decode c.code g.pc = .ok (.newarray aty, 2)) {n : Int32} {rest : List Value} (hs : g.stack = .int n :: rest)
    {N : Nat} (hn : n.toInt = (N : Int)) (hb : N * 8 ≤ 536870912) (hc : cells + 1 ≤ R.cells) (hl : slots + N ≤ R.slots) (hdv : defaultValue (newarray.typeOf aty) = .int 0) :
    ∃ T' h', Stand p l e R s m args below meth c T' locs (cells + 1) (slots + N) ∧ T'.heap = h' ∧ Ext h h' ∧ own_AI Z h' h.size (newarray.typeOf aty) N (fun _ => 0) ∧
      ∀ target, Steps p.tables e below (T'.setTop { g with pc := g.pc + 2, stack := .ref h.size :: rest }) target → Steps p.tables e below (T.setTop g) target := by
  have e1 : n.toNatClampNeg = N := by
    show n.toInt.toNat = N
    omega
  have e2 : ¬ n < 0 := by
    rw [Int32.lt_iff_toInt_lt, hn]
    have z : (0 : Int32).toInt = 0 := by decide
    omega
  obtain ⟨T', h', cA, X', e', E, A, st⟩ := newP X hx hZ w eT hg hd hs e2 (cap := N) (by omega) hb hc hl
  refine ⟨T', h', X', e', E, ⟨_, A, by rw [sz_new, e1], fun k hk => ?_⟩, st⟩
  simp [newA, e1, hk, hdv]
theorem own_newJ (X : Stand p l e R s m args below meth c T locs cells slots) (hx : p.tables.exec = Jvm.exec) (hZ : Z.Warmed39 s.vm) {a0 : Array Value} (w : (Cond.arrayClass (newarray.typeOf .long)).before a0 Z = true) (eT : T.heap = h) {g : JFrame} (hg : g.method = m) (hd : decode c.code g.pc = .ok (.newarray .long, 2)) {n : Int32} {rest : List Value} (hs : g.stack = .int n :: rest)
    {N : Nat} (hn : n.toInt = (N : Int)) (hb : N * 8 ≤ 536870912) (hc : cells + 1 ≤ R.cells) (hl : slots + N ≤ R.slots) :
    ∃ T' h', Stand p l e R s m args below meth c T' locs (cells + 1) (slots + N) ∧ T'.heap = h' ∧ Ext h h' ∧ own_AJ Z h' h.size N (fun _ => 0) ∧
      ∀ target, Steps p.tables e below (T'.setTop { g with pc := g.pc + 2, stack := .ref h.size :: rest }) target → Steps p.tables e below (T.setTop g) target := by
  have e1 : n.toNatClampNeg = N := by
    show n.toInt.toNat = N
    omega
  have e2 : ¬ n < 0 := by
    rw [Int32.lt_iff_toInt_lt, hn]
    have z : (0 : Int32).toInt = 0 := by decide
    omega
  obtain ⟨T', h', cA, X', e', E, A, st⟩ := newP X hx hZ w eT hg hd hs e2 (cap := N) (by omega) hb hc hl
  refine ⟨T', h', X', e', E, ⟨_, A, by rw [sz_new, e1], fun k hk => ?_⟩, st⟩
  simp [newA, e1, hk, defaultValue, newarray.typeOf]
end OwnKit
theorem own_miss2 {k a b : Int32} {A B x y : Int} (h1 : ¬ k = a) (h2 : ¬ k = b) (ha : a.toInt = A := by decide) (hb : b.toInt = B := by decide) : (#[(A, x), (B, y)] : Array (Int × Int)).find? (fun z => z.1 == k.toInt) = none := by
  rw [Array.find?_eq_none]
  intro z hz
  simp only [List.mem_toArray, List.mem_cons, List.not_mem_nil, or_false] at hz
  rcases hz with rfl | rfl
  · simp only [beq_iff_eq]; exact fun q => h1 (Int32.toInt_inj.mp (q.symm.trans ha.symm))
  · simp only [beq_iff_eq]; exact fun q => h2 (Int32.toInt_inj.mp (q.symm.trans hb.symm))
theorem own_hit2 {k a : Int32} {pairs : Array (Int × Int)} {r : Option (Int × Int)} (h : k = a) (hf : pairs.find? (fun z => z.1 == a.toInt) = r := by decide +kernel) : pairs.find? (fun z => z.1 == k.toInt) = r := by rw [h]; exact hf
theorem d1_0 : decode prog_35_method_21_code 0 = .ok (.iload_n 1, 1) := by decide +kernel
theorem d1_1 : decode prog_35_method_21_code 1 = .ok (.ldc_w 277, 3) := by decide +kernel
theorem d1_4 : decode prog_35_method_21_code 4 = .ok (.iand, 1) := by decide +kernel
theorem d1_5 : decode prog_35_method_21_code 5 = .ok (.istore_n 2, 1) := by decide +kernel
theorem d1_6 : decode prog_35_method_21_code 6 = .ok (.iload_n 1, 1) := by decide +kernel
theorem d1_7 : decode prog_35_method_21_code 7 = .ok (.ldc_w 289, 3) := by decide +kernel
theorem d1_10 : decode prog_35_method_21_code 10 = .ok (.iand, 1) := by decide +kernel
theorem d1_11 : decode prog_35_method_21_code 11 = .ok (.lookupswitch 45 #[(-2147483648, 29), (1073741824, 25)], 25) := by decide +kernel
theorem d1_36 : decode prog_35_method_21_code 36 = .ok (.iload_n 2, 1) := by decide +kernel
theorem d1_37 : decode prog_35_method_21_code 37 = .ok (.goto 20, 3) := by decide +kernel
theorem d1_40 : decode prog_35_method_21_code 40 = .ok (.iload_n 0, 1) := by decide +kernel
theorem d1_41 : decode prog_35_method_21_code 41 = .ok (.iload_n 2, 1) := by decide +kernel
theorem d1_42 : decode prog_35_method_21_code 42 = .ok (.if_icmp .le 10, 3) := by decide +kernel
theorem d1_45 : decode prog_35_method_21_code 45 = .ok (.iload_n 2, 1) := by decide +kernel
theorem d1_46 : decode prog_35_method_21_code 46 = .ok (.ldc 233, 2) := by decide +kernel
theorem d1_48 : decode prog_35_method_21_code 48 = .ok (.ior, 1) := by decide +kernel
theorem d1_49 : decode prog_35_method_21_code 49 = .ok (.goto 8, 3) := by decide +kernel
theorem d1_52 : decode prog_35_method_21_code 52 = .ok (.iload_n 0, 1) := by decide +kernel
theorem d1_53 : decode prog_35_method_21_code 53 = .ok (.goto 4, 3) := by decide +kernel
theorem d1_56 : decode prog_35_method_21_code 56 = .ok (.iload_n 0, 1) := by decide +kernel
theorem d1_57 : decode prog_35_method_21_code 57 = .ok (.ireturn, 1) := by decide +kernel
theorem pn_1 : plainName "com/example/plumbline/plumbline/core/Node" = true := by first | (simp [plainName, overriddenIn]; done) | decide +kernel
theorem ef_1 (m : MethodId) (p0 : Int32) (p1 : Int32) : entryFrame m #[(.int p0), (.int p1)] 3 = mkF m 0 #[.val (.int p0), .val (.int p1), .unset] [] := by first | (simp [entryFrame, mkF, argsToLocals, Value.category]; done) | rfl
def f1_57 (p0 : Int32) (p1 : Int32) : Int32 := ((p1 &&& (1073741823 : Int32)) ||| (1073741824 : Int32))
def f1_57b (p0 : Int32) (p1 : Int32) : Int32 := p0
def f1_57c (p0 : Int32) (p1 : Int32) : Int32 := (p1 &&& (1073741823 : Int32))
def f1_0 (p0 : Int32) (p1 : Int32) : Int32 := (if (p1 &&& (-1073741824 : Int32)) = (-2147483648 : Int32) then (if (p1 &&& (1073741823 : Int32)) < p0 then f1_57 p0 p1 else f1_57b p0 p1) else (if (p1 &&& (-1073741824 : Int32)) = (1073741824 : Int32) then f1_57c p0 p1 else f1_57b p0 p1))
def Q1 (Z : State) (p0 : Int32) (p1 : Int32) (h0 : Heap) (n0 : Nat) (v : Option Value) (h : Heap) (L : List Loc) : Prop := v = some (.int (f1_0 p0 p1)) ∧ Fr n0 L ∧ h = h0
set_option maxRecDepth 65536 in
set_option maxHeartbeats 40000000 in
theorem rm1 (l : Launch) (Z : State) (a0 : Array Value) (hw : ∀ d ∈ tables_1, d.before a0 Z = true) (ws : List Jvm.Cond) (p0 : Int32) (p1 : Int32) (h0 : Heap) (n0 : Nat) :
    MetFree l (⟨"com/example/plumbline/plumbline/core/Node", "resolveSize", "(II)I"⟩ : MethodName) (head1 (Jvm.Cond.code (⟨"com/example/plumbline/plumbline/core/Node", "resolveSize", "(II)I"⟩ : MethodName) prog_35_method_21_code 3 (some .int) :: ws) ({ frames := 0, cells := 0, slots := 0, locals := 0 } : Room)) (fun a U => a = #[(.int p0), (.int p1)] ∧ Z.Warmed39 U.vm ∧ U.heap = h0) (fun _ _ _ _ _ => True) (fun _ U o U' => ∃ v L, o = .returned v ∧ (Q1 Z p0 p1 h0 n0) v U'.heap L ∧ FrameEnd U o U' L ({ frames := 0, cells := 0, slots := 0, locals := 0 } : Room).cells ({ frames := 0, cells := 0, slots := 0, locals := 0 } : Room).slots) := by
  refine MetFree.of_bodySF (plainFor_of_name pn_1) hisR ?_
  intro p e s m args below meth c s₁ Bd hml0 hP hK
  obtain ⟨rfl, hZ, hh⟩ := hP
  have hx := Bd.exec
  have hby := Bd.bytes
  have hret := Bd.returns
  have hlk := BodyLoose.notSynchronized Bd
  have hml : c.maxLocals = 3 := hml0
  have hown : s.vm.findClass "com/example/plumbline/plumbline/core/Node" = some m.cls := findClass_of_methodNamed Bd.named
  have hnm := (name_of_methodNamed Bd.named Bd.method).1
  have X0 : Stand p l e ({ frames := 0, cells := 0, slots := 0, locals := 0 } : Room) s m #[(.int p0), (.int p1)] below meth c s₁ [] 0 0 := Stand.of_body Bd
  have e0 : s₁.heap = h0 := by rw [← hh, Bd.state]; rfl
  have N0 := Fr.nil n0
  show own_Ends p e below s ({ frames := 0, cells := 0, slots := 0, locals := 0 } : Room).cells ({ frames := 0, cells := 0, slots := 0, locals := 0 } : Room).slots (Q1 Z p0 p1 h0 n0) (s₁.setTop (entryFrame m #[(.int p0), (.int p1)] 3))
  refine own_cast (ef_1 m p0 p1) ?_
  have B1_57 (hF : f1_0 p0 p1 = f1_57 p0 p1) : own_Ends p e below s ({ frames := 0, cells := 0, slots := 0, locals := 0 } : Room).cells ({ frames := 0, cells := 0, slots := 0, locals := 0 } : Room).slots (Q1 Z p0 p1 h0 n0) (s₁.setTop (mkF m 57 #[.val (.int p0), .val (.int p1), .val (.int (p1 &&& (1073741823 : Int32)))] [(.int ((p1 &&& (1073741823 : Int32)) ||| (1073741824 : Int32)))])) := by
    show own_Ends p e below s _ _ _ (s₁.setTop (mkF m 57 #[.val (.int p0), .val (.int p1), .val (.int (p1 &&& (1073741823 : Int32)))] [(.int ((p1 &&& (1073741823 : Int32)) ||| (1073741824 : Int32)))]))
    exact own_retI X0 hx hlk hret (hb hby d1_57) ⟨congrArg (fun w => some (Value.int w)) (Eq.symm hF), N0, e0⟩ (by decide) (by decide)
  have B1_57b (hF : f1_0 p0 p1 = f1_57b p0 p1) : own_Ends p e below s ({ frames := 0, cells := 0, slots := 0, locals := 0 } : Room).cells ({ frames := 0, cells := 0, slots := 0, locals := 0 } : Room).slots (Q1 Z p0 p1 h0 n0) (s₁.setTop (mkF m 57 #[.val (.int p0), .val (.int p1), .val (.int (p1 &&& (1073741823 : Int32)))] [(.int p0)])) := by
    show own_Ends p e below s _ _ _ (s₁.setTop (mkF m 57 #[.val (.int p0), .val (.int p1), .val (.int (p1 &&& (1073741823 : Int32)))] [(.int p0)]))
    exact own_retI X0 hx hlk hret (hb hby d1_57) ⟨congrArg (fun w => some (Value.int w)) (Eq.symm hF), N0, e0⟩ (by decide) (by decide)
  have B1_57c (hF : f1_0 p0 p1 = f1_57c p0 p1) : own_Ends p e below s ({ frames := 0, cells := 0, slots := 0, locals := 0 } : Room).cells ({ frames := 0, cells := 0, slots := 0, locals := 0 } : Room).slots (Q1 Z p0 p1 h0 n0) (s₁.setTop (mkF m 57 #[.val (.int p0), .val (.int p1), .val (.int (p1 &&& (1073741823 : Int32)))] [(.int (p1 &&& (1073741823 : Int32)))])) := by
    show own_Ends p e below s _ _ _ (s₁.setTop (mkF m 57 #[.val (.int p0), .val (.int p1), .val (.int (p1 &&& (1073741823 : Int32)))] [(.int (p1 &&& (1073741823 : Int32)))]))
    exact own_retI X0 hx hlk hret (hb hby d1_57) ⟨congrArg (fun w => some (Value.int w)) (Eq.symm hF), N0, e0⟩ (by decide) (by decide)
  show own_Ends p e below s _ _ _ (s₁.setTop (mkF m 0 #[.val (.int p0), .val (.int p1), .unset] []))
  refine own_step (fun t k => XS.iloadN X0.here hx rfl (hb hby d1_0) rfl k) ?_
  show own_Ends p e below s _ _ _ (s₁.setTop (mkF m 1 #[.val (.int p0), .val (.int p1), .unset] [(.int p1)]))
  refine own_step (fun t k => X0.ldcwInt hx hown (mvT hZ (hw _ (List.mem_of_getElem? (i := 6) rfl))) (g := (mkF m 1 #[.val (.int p0), .val (.int p1), .unset] [(.int p1)])) rfl (hb hby d1_1) t k) ?_
  show own_Ends p e below s _ _ _ (s₁.setTop (mkF m 4 #[.val (.int p0), .val (.int p1), .unset] [(.int (1073741823 : Int32)), (.int p1)]))
  refine own_step (fun t k => XS.iand X0.here hx rfl (hb hby d1_4) rfl k) ?_
  show own_Ends p e below s _ _ _ (s₁.setTop (mkF m 5 #[.val (.int p0), .val (.int p1), .unset] [(.int (p1 &&& (1073741823 : Int32)))]))
  refine own_step (fun t k => XS.istoreN X0.here hx rfl (hb hby d1_5) rfl (l' := #[.val (.int p0), .val (.int p1), .val (.int (p1 &&& (1073741823 : Int32)))]) rfl k) ?_
  show own_Ends p e below s _ _ _ (s₁.setTop (mkF m 6 #[.val (.int p0), .val (.int p1), .val (.int (p1 &&& (1073741823 : Int32)))] []))
  refine own_step (fun t k => XS.iloadN X0.here hx rfl (hb hby d1_6) rfl k) ?_
  show own_Ends p e below s _ _ _ (s₁.setTop (mkF m 7 #[.val (.int p0), .val (.int p1), .val (.int (p1 &&& (1073741823 : Int32)))] [(.int p1)]))
  refine own_step (fun t k => X0.ldcwInt hx hown (mvT hZ (hw _ (List.mem_of_getElem? (i := 7) rfl))) (g := (mkF m 7 #[.val (.int p0), .val (.int p1), .val (.int (p1 &&& (1073741823 : Int32)))] [(.int p1)])) rfl (hb hby d1_7) t k) ?_
  show own_Ends p e below s _ _ _ (s₁.setTop (mkF m 10 #[.val (.int p0), .val (.int p1), .val (.int (p1 &&& (1073741823 : Int32)))] [(.int (-1073741824 : Int32)), (.int p1)]))
  refine own_step (fun t k => XS.iand X0.here hx rfl (hb hby d1_10) rfl k) ?_
  show own_Ends p e below s _ _ _ (s₁.setTop (mkF m 11 #[.val (.int p0), .val (.int p1), .val (.int (p1 &&& (1073741823 : Int32)))] [(.int (p1 &&& (-1073741824 : Int32)))]))
  by_cases hs11_1 : (p1 &&& (-1073741824 : Int32)) = (-2147483648 : Int32)
  · -- case -2147483648
    refine own_step (fun t k => own_swHit X0 hx rfl rfl (hb hby d1_11) (by decide +kernel) (a := (-2147483648)) (off := 29) (own_hit2 hs11_1) (pc0 := 11) (pc' := 40) rfl (by decide) (by decide) k) ?_
    show own_Ends p e below s _ _ _ (s₁.setTop (mkF m 40 #[.val (.int p0), .val (.int p1), .val (.int (p1 &&& (1073741823 : Int32)))] []))
    refine own_step (fun t k => XS.iloadN X0.here hx rfl (hb hby d1_40) rfl k) ?_
    show own_Ends p e below s _ _ _ (s₁.setTop (mkF m 41 #[.val (.int p0), .val (.int p1), .val (.int (p1 &&& (1073741823 : Int32)))] [(.int p0)]))
    refine own_step (fun t k => XS.iloadN X0.here hx rfl (hb hby d1_41) rfl k) ?_
    show own_Ends p e below s _ _ _ (s₁.setTop (mkF m 42 #[.val (.int p0), .val (.int p1), .val (.int (p1 &&& (1073741823 : Int32)))] [(.int (p1 &&& (1073741823 : Int32))), (.int p0)]))
    by_cases hc42_2 : (p1 &&& (1073741823 : Int32)) < p0
    · -- (p1 &&& (1073741823 : Int32)) < p0
      refine own_step (fun t k => XS.icmpNo X0.here hx rfl (hb hby d1_42) rfl (tlt hc42_2).2.2.2 k) ?_
      show own_Ends p e below s _ _ _ (s₁.setTop (mkF m 45 #[.val (.int p0), .val (.int p1), .val (.int (p1 &&& (1073741823 : Int32)))] []))
      refine own_step (fun t k => XS.iloadN X0.here hx rfl (hb hby d1_45) rfl k) ?_
      show own_Ends p e below s _ _ _ (s₁.setTop (mkF m 46 #[.val (.int p0), .val (.int p1), .val (.int (p1 &&& (1073741823 : Int32)))] [(.int (p1 &&& (1073741823 : Int32)))]))
      refine own_step (fun t k => X0.ldcInt hx hown (mvT hZ (hw _ (List.mem_of_getElem? (i := 12) rfl))) (g := (mkF m 46 #[.val (.int p0), .val (.int p1), .val (.int (p1 &&& (1073741823 : Int32)))] [(.int (p1 &&& (1073741823 : Int32)))])) rfl (hb hby d1_46) t k) ?_
      show own_Ends p e below s _ _ _ (s₁.setTop (mkF m 48 #[.val (.int p0), .val (.int p1), .val (.int (p1 &&& (1073741823 : Int32)))] [(.int (1073741824 : Int32)), (.int (p1 &&& (1073741823 : Int32)))]))
      refine own_step (fun t k => XS.ior X0.here hx rfl (hb hby d1_48) rfl k) ?_
      show own_Ends p e below s _ _ _ (s₁.setTop (mkF m 49 #[.val (.int p0), .val (.int p1), .val (.int (p1 &&& (1073741823 : Int32)))] [(.int ((p1 &&& (1073741823 : Int32)) ||| (1073741824 : Int32)))]))
      refine own_step (fun t k => XS.goto X0.here hx rfl (pc0 := 49) (pc' := 57) rfl (hb hby d1_49) (by decide) (by decide) k) ?_
      show own_Ends p e below s _ _ _ (s₁.setTop (mkF m 57 #[.val (.int p0), .val (.int p1), .val (.int (p1 &&& (1073741823 : Int32)))] [(.int ((p1 &&& (1073741823 : Int32)) ||| (1073741824 : Int32)))]))
      exact B1_57 (((show f1_0 p0 p1 = _ from rfl).trans (if_pos hs11_1)).trans (if_pos hc42_2))
    · -- not (p1 &&& (1073741823 : Int32)) < p0
      refine own_step (fun t k => XS.icmpYes X0.here hx rfl (pc0 := 42) (pc' := 52) rfl (hb hby d1_42) rfl (flt hc42_2).2.2.2 (by decide) (by decide) k) ?_
      show own_Ends p e below s _ _ _ (s₁.setTop (mkF m 52 #[.val (.int p0), .val (.int p1), .val (.int (p1 &&& (1073741823 : Int32)))] []))
      refine own_step (fun t k => XS.iloadN X0.here hx rfl (hb hby d1_52) rfl k) ?_
      show own_Ends p e below s _ _ _ (s₁.setTop (mkF m 53 #[.val (.int p0), .val (.int p1), .val (.int (p1 &&& (1073741823 : Int32)))] [(.int p0)]))
      refine own_step (fun t k => XS.goto X0.here hx rfl (pc0 := 53) (pc' := 57) rfl (hb hby d1_53) (by decide) (by decide) k) ?_
      show own_Ends p e below s _ _ _ (s₁.setTop (mkF m 57 #[.val (.int p0), .val (.int p1), .val (.int (p1 &&& (1073741823 : Int32)))] [(.int p0)]))
      exact B1_57b (((show f1_0 p0 p1 = _ from rfl).trans (if_pos hs11_1)).trans (if_neg hc42_2))
  · -- another
    by_cases hs11_3 : (p1 &&& (-1073741824 : Int32)) = (1073741824 : Int32)
    · -- case 1073741824
      refine own_step (fun t k => own_swHit X0 hx rfl rfl (hb hby d1_11) (by decide +kernel) (a := 1073741824) (off := 25) (own_hit2 hs11_3) (pc0 := 11) (pc' := 36) rfl (by decide) (by decide) k) ?_
      show own_Ends p e below s _ _ _ (s₁.setTop (mkF m 36 #[.val (.int p0), .val (.int p1), .val (.int (p1 &&& (1073741823 : Int32)))] []))
      refine own_step (fun t k => XS.iloadN X0.here hx rfl (hb hby d1_36) rfl k) ?_
      show own_Ends p e below s _ _ _ (s₁.setTop (mkF m 37 #[.val (.int p0), .val (.int p1), .val (.int (p1 &&& (1073741823 : Int32)))] [(.int (p1 &&& (1073741823 : Int32)))]))
      refine own_step (fun t k => XS.goto X0.here hx rfl (pc0 := 37) (pc' := 57) rfl (hb hby d1_37) (by decide) (by decide) k) ?_
      show own_Ends p e below s _ _ _ (s₁.setTop (mkF m 57 #[.val (.int p0), .val (.int p1), .val (.int (p1 &&& (1073741823 : Int32)))] [(.int (p1 &&& (1073741823 : Int32)))]))
      exact B1_57c (((show f1_0 p0 p1 = _ from rfl).trans (if_neg hs11_1)).trans (if_pos hs11_3))
    · -- another
      refine own_step (fun t k => own_swMiss X0 hx rfl rfl (hb hby d1_11) (by decide +kernel) (own_miss2 hs11_1 hs11_3) (pc0 := 11) (pc' := 56) rfl (by decide) (by decide) k) ?_
      show own_Ends p e below s _ _ _ (s₁.setTop (mkF m 56 #[.val (.int p0), .val (.int p1), .val (.int (p1 &&& (1073741823 : Int32)))] []))
      refine own_step (fun t k => XS.iloadN X0.here hx rfl (hb hby d1_56) rfl k) ?_
      show own_Ends p e below s _ _ _ (s₁.setTop (mkF m 57 #[.val (.int p0), .val (.int p1), .val (.int (p1 &&& (1073741823 : Int32)))] [(.int p0)]))
      exact B1_57b (((show f1_0 p0 p1 = _ from rfl).trans (if_neg hs11_1)).trans (if_neg hs11_3))
theorem d2_0 : decode jdk_29_method_69_code 0 = .ok (.iload_n 0, 1) := by decide +kernel
theorem d2_1 : decode jdk_29_method_69_code 1 = .ok (.iload_n 1, 1) := by decide +kernel
theorem d2_2 : decode jdk_29_method_69_code 2 = .ok (.if_icmp .gt 7, 3) := by decide +kernel
theorem d2_5 : decode jdk_29_method_69_code 5 = .ok (.iload_n 0, 1) := by decide +kernel
theorem d2_6 : decode jdk_29_method_69_code 6 = .ok (.goto 4, 3) := by decide +kernel
theorem d2_9 : decode jdk_29_method_69_code 9 = .ok (.iload_n 1, 1) := by decide +kernel
theorem d2_10 : decode jdk_29_method_69_code 10 = .ok (.ireturn, 1) := by decide +kernel
theorem ef_2 (m : MethodId) (p0 : Int32) (p1 : Int32) : entryFrame m #[(.int p0), (.int p1)] 2 = mkF m 0 #[.val (.int p0), .val (.int p1)] [] := by first | (simp [entryFrame, mkF, argsToLocals, Value.category]; done) | rfl
def f2_10 (p0 : Int32) (p1 : Int32) : Int32 := p1
def f2_10b (p0 : Int32) (p1 : Int32) : Int32 := p0
def f2_0 (p0 : Int32) (p1 : Int32) : Int32 := (if p1 < p0 then f2_10 p0 p1 else f2_10b p0 p1)
def Q2 (Z : State) (p0 : Int32) (p1 : Int32) (h0 : Heap) (n0 : Nat) (v : Option Value) (h : Heap) (L : List Loc) : Prop := v = some (.int (f2_0 p0 p1)) ∧ Fr n0 L ∧ h = h0
set_option maxRecDepth 65536 in
set_option maxHeartbeats 40000000 in
theorem rm2 (l : Launch) (Z : State) (a0 : Array Value) (hw : ∀ d ∈ tables_1, d.before a0 Z = true) (ws : List Jvm.Cond) (p0 : Int32) (p1 : Int32) (h0 : Heap) (n0 : Nat) :
    MetFree l (⟨"java/lang/Math", "min", "(II)I"⟩ : MethodName) (head1 (Jvm.Cond.code (⟨"java/lang/Math", "min", "(II)I"⟩ : MethodName) jdk_29_method_69_code 2 (some .int) :: ws) ({ frames := 0, cells := 0, slots := 0, locals := 0 } : Room)) (fun a U => a = #[(.int p0), (.int p1)] ∧ Z.Warmed39 U.vm ∧ U.heap = h0) (fun _ _ _ _ _ => True) (fun _ U o U' => ∃ v L, o = .returned v ∧ (Q2 Z p0 p1 h0 n0) v U'.heap L ∧ FrameEnd U o U' L ({ frames := 0, cells := 0, slots := 0, locals := 0 } : Room).cells ({ frames := 0, cells := 0, slots := 0, locals := 0 } : Room).slots) := by
  refine MetFree.of_bodySF (Jvm.Free.JP.mathPlain rfl (by decide +kernel)) hisR ?_
  intro p e s m args below meth c s₁ Bd hml0 hP hK
  obtain ⟨rfl, hZ, hh⟩ := hP
  have hx := Bd.exec
  have hby := Bd.bytes
  have hret := Bd.returns
  have hlk := BodyLoose.notSynchronized Bd
  have hml : c.maxLocals = 2 := hml0
  have hown : s.vm.findClass "java/lang/Math" = some m.cls := findClass_of_methodNamed Bd.named
  have hnm := (name_of_methodNamed Bd.named Bd.method).1
  have X0 : Stand p l e ({ frames := 0, cells := 0, slots := 0, locals := 0 } : Room) s m #[(.int p0), (.int p1)] below meth c s₁ [] 0 0 := Stand.of_body Bd
  have e0 : s₁.heap = h0 := by rw [← hh, Bd.state]; rfl
  have N0 := Fr.nil n0
  show own_Ends p e below s ({ frames := 0, cells := 0, slots := 0, locals := 0 } : Room).cells ({ frames := 0, cells := 0, slots := 0, locals := 0 } : Room).slots (Q2 Z p0 p1 h0 n0) (s₁.setTop (entryFrame m #[(.int p0), (.int p1)] 2))
  refine own_cast (ef_2 m p0 p1) ?_
  have B2_10 (hF : f2_0 p0 p1 = f2_10 p0 p1) : own_Ends p e below s ({ frames := 0, cells := 0, slots := 0, locals := 0 } : Room).cells ({ frames := 0, cells := 0, slots := 0, locals := 0 } : Room).slots (Q2 Z p0 p1 h0 n0) (s₁.setTop (mkF m 10 #[.val (.int p0), .val (.int p1)] [(.int p1)])) := by
    show own_Ends p e below s _ _ _ (s₁.setTop (mkF m 10 #[.val (.int p0), .val (.int p1)] [(.int p1)]))
    exact own_retI X0 hx hlk hret (hb hby d2_10) ⟨congrArg (fun w => some (Value.int w)) (Eq.symm hF), N0, e0⟩ (by decide) (by decide)
  have B2_10b (hF : f2_0 p0 p1 = f2_10b p0 p1) : own_Ends p e below s ({ frames := 0, cells := 0, slots := 0, locals := 0 } : Room).cells ({ frames := 0, cells := 0, slots := 0, locals := 0 } : Room).slots (Q2 Z p0 p1 h0 n0) (s₁.setTop (mkF m 10 #[.val (.int p0), .val (.int p1)] [(.int p0)])) := by
    show own_Ends p e below s _ _ _ (s₁.setTop (mkF m 10 #[.val (.int p0), .val (.int p1)] [(.int p0)]))
    exact own_retI X0 hx hlk hret (hb hby d2_10) ⟨congrArg (fun w => some (Value.int w)) (Eq.symm hF), N0, e0⟩ (by decide) (by decide)
  show own_Ends p e below s _ _ _ (s₁.setTop (mkF m 0 #[.val (.int p0), .val (.int p1)] []))
  refine own_step (fun t k => XS.iloadN X0.here hx rfl (hb hby d2_0) rfl k) ?_
  show own_Ends p e below s _ _ _ (s₁.setTop (mkF m 1 #[.val (.int p0), .val (.int p1)] [(.int p0)]))
  refine own_step (fun t k => XS.iloadN X0.here hx rfl (hb hby d2_1) rfl k) ?_
  show own_Ends p e below s _ _ _ (s₁.setTop (mkF m 2 #[.val (.int p0), .val (.int p1)] [(.int p1), (.int p0)]))
  by_cases hc2_1 : p1 < p0
  · -- p1 < p0
    refine own_step (fun t k => XS.icmpYes X0.here hx rfl (pc0 := 2) (pc' := 9) rfl (hb hby d2_2) rfl (tlt hc2_1).2.2.1 (by decide) (by decide) k) ?_
    show own_Ends p e below s _ _ _ (s₁.setTop (mkF m 9 #[.val (.int p0), .val (.int p1)] []))
    refine own_step (fun t k => XS.iloadN X0.here hx rfl (hb hby d2_9) rfl k) ?_
    show own_Ends p e below s _ _ _ (s₁.setTop (mkF m 10 #[.val (.int p0), .val (.int p1)] [(.int p1)]))
    exact B2_10 ((show f2_0 p0 p1 = _ from rfl).trans (if_pos hc2_1))
  · -- not p1 < p0
    refine own_step (fun t k => XS.icmpNo X0.here hx rfl (hb hby d2_2) rfl (flt hc2_1).2.2.1 k) ?_
    show own_Ends p e below s _ _ _ (s₁.setTop (mkF m 5 #[.val (.int p0), .val (.int p1)] []))
    refine own_step (fun t k => XS.iloadN X0.here hx rfl (hb hby d2_5) rfl k) ?_
    show own_Ends p e below s _ _ _ (s₁.setTop (mkF m 6 #[.val (.int p0), .val (.int p1)] [(.int p0)]))
    refine own_step (fun t k => XS.goto X0.here hx rfl (pc0 := 6) (pc' := 10) rfl (hb hby d2_6) (by decide) (by decide) k) ?_
    show own_Ends p e below s _ _ _ (s₁.setTop (mkF m 10 #[.val (.int p0), .val (.int p1)] [(.int p0)]))
    exact B2_10b ((show f2_0 p0 p1 = _ from rfl).trans (if_neg hc2_1))
theorem own_dist (a b c : Int32) : (a ||| b) &&& c = (a &&& c) ||| (b &&& c) := Int32.toBitVec_inj.1 BitVec.and_or_distrib_right
theorem own_lo (x C : Int32) (h : C &&& (1073741823 : Int32) = 0) : ((x &&& (1073741823 : Int32)) ||| C) &&& (1073741823 : Int32) = (x &&& (1073741823 : Int32)) := by
  rw [own_dist, h, Int32.and_assoc, Int32.and_self, Int32.or_zero]
theorem own_hi (x C : Int32) (h : C &&& (-1073741824 : Int32) = C) : ((x &&& (1073741823 : Int32)) ||| C) &&& (-1073741824 : Int32) = C := by
  rw [own_dist, h, Int32.and_assoc, show (1073741823 : Int32) &&& (-1073741824 : Int32) = 0 by decide, Int32.and_zero, Int32.zero_or]
theorem own_k3 (c : Int32) (h1 : ¬ ((c &&& (2147483647 : Int32)) % (3 : Int32)) = (0 : Int32)) (h2 : ¬ ((c &&& (2147483647 : Int32)) % (3 : Int32)) = (1 : Int32)) : ((c &&& (2147483647 : Int32)) % (3 : Int32)) = (2 : Int32) := by
  have m1 := c_mask c 2147483647 31 (by decide) (by decide)
  have m2 := (c_irem (c &&& (2147483647 : Int32)) (3 : Int32) 3 (by decide)).1
  have z0 : (0 : Int32).toInt = 0 := by decide
  have z1 : (1 : Int32).toInt = 1 := by decide
  have z2 : (2 : Int32).toInt = 2 := by decide
  rw [← Int32.toInt_inj] at h1 h2 ⊢
  omega
theorem own_l0 (p0 p1 p2 : Int32) (h : ((p2 &&& (2147483647 : Int32)) % (3 : Int32)) = (0 : Int32)) : (f1_0 (p0 &&& (1073741823 : Int32)) ((p1 &&& (1073741823 : Int32)) ||| (((p2 &&& (2147483647 : Int32)) % (3 : Int32)) <<< ((30 : Int32) &&& 31)))) = (p0 &&& (1073741823 : Int32)) := by
  rw [h, show (0 : Int32) <<< ((30 : Int32) &&& 31) = (0 : Int32) by decide]
  unfold f1_0
  rw [own_hi p1 0 (by decide), if_neg (by decide), if_neg (by decide)]
  rfl
theorem own_l1 (p0 p1 p2 : Int32) (h0 : ¬ ((p2 &&& (2147483647 : Int32)) % (3 : Int32)) = (0 : Int32)) (h : ((p2 &&& (2147483647 : Int32)) % (3 : Int32)) = (1 : Int32)) : (f1_0 (p0 &&& (1073741823 : Int32)) ((p1 &&& (1073741823 : Int32)) ||| (((p2 &&& (2147483647 : Int32)) % (3 : Int32)) <<< ((30 : Int32) &&& 31)))) = (p1 &&& (1073741823 : Int32)) := by
  rw [h, show (1 : Int32) <<< ((30 : Int32) &&& 31) = (1073741824 : Int32) by decide]
  unfold f1_0
  rw [own_hi p1 1073741824 (by decide), if_neg (by decide), if_pos rfl]
  exact own_lo p1 1073741824 (by decide)
theorem own_l2 (p0 p1 p2 : Int32) (h0 : ¬ ((p2 &&& (2147483647 : Int32)) % (3 : Int32)) = (0 : Int32)) (h1 : ¬ ((p2 &&& (2147483647 : Int32)) % (3 : Int32)) = (1 : Int32)) (h : (p1 &&& (1073741823 : Int32)) < (p0 &&& (1073741823 : Int32))) : (f1_0 (p0 &&& (1073741823 : Int32)) ((p1 &&& (1073741823 : Int32)) ||| (((p2 &&& (2147483647 : Int32)) % (3 : Int32)) <<< ((30 : Int32) &&& 31)))) = ((f2_0 (p0 &&& (1073741823 : Int32)) (p1 &&& (1073741823 : Int32))) ||| (1073741824 : Int32)) := by
  rw [own_k3 p2 h0 h1, show (2 : Int32) <<< ((30 : Int32) &&& 31) = (-2147483648 : Int32) by decide]
  rw [show f2_0 (p0 &&& (1073741823 : Int32)) (p1 &&& (1073741823 : Int32)) = (p1 &&& (1073741823 : Int32)) from if_pos h]
  unfold f1_0
  rw [own_hi p1 (-2147483648) (by decide), if_pos rfl, own_lo p1 (-2147483648) (by decide), if_pos h]
  show ((((p1 &&& (1073741823 : Int32)) ||| (-2147483648 : Int32)) &&& (1073741823 : Int32)) ||| (1073741824 : Int32)) = _
  rw [own_lo p1 (-2147483648) (by decide)]
theorem own_l3 (p0 p1 p2 : Int32) (h0 : ¬ ((p2 &&& (2147483647 : Int32)) % (3 : Int32)) = (0 : Int32)) (h1 : ¬ ((p2 &&& (2147483647 : Int32)) % (3 : Int32)) = (1 : Int32)) (h : ¬ (p1 &&& (1073741823 : Int32)) < (p0 &&& (1073741823 : Int32))) : (f1_0 (p0 &&& (1073741823 : Int32)) ((p1 &&& (1073741823 : Int32)) ||| (((p2 &&& (2147483647 : Int32)) % (3 : Int32)) <<< ((30 : Int32) &&& 31)))) = (f2_0 (p0 &&& (1073741823 : Int32)) (p1 &&& (1073741823 : Int32))) := by
  rw [own_k3 p2 h0 h1, show (2 : Int32) <<< ((30 : Int32) &&& 31) = (-2147483648 : Int32) by decide]
  rw [show f2_0 (p0 &&& (1073741823 : Int32)) (p1 &&& (1073741823 : Int32)) = (p0 &&& (1073741823 : Int32)) from if_neg h]
  unfold f1_0
  rw [own_hi p1 (-2147483648) (by decide), if_pos rfl, own_lo p1 (-2147483648) (by decide), if_neg h]
  rfl
theorem pn_0 : plainName "com/example/plumbline/plumbline/core/NodeResolveSizePinLaw" = true := by first | (simp [plainName, overriddenIn]; done) | decide +kernel
theorem ef_0 (m : MethodId) (p0 : Int32) (p1 : Int32) (p2 : Int32) : entryFrame m #[(.int p0), (.int p1), (.int p2)] maxLocals = mkF m 0 #[.val (.int p0), .val (.int p1), .val (.int p2), .unset, .unset, .unset, .unset, .unset, .unset, .unset] [] := by first | (simp [entryFrame, mkF, argsToLocals, Value.category, maxLocals]; done) | rfl
theorem pd0_0 : parseMethodDescriptor "(II)I" = some ⟨[.int, .int], some .int⟩ := by decide +kernel
set_option maxRecDepth 65536 in
set_option maxHeartbeats 40000000 in
theorem rm0 (l : Launch) (Z : State) (a0 : Array Value) (hw : ∀ d ∈ tables_1, d.before a0 Z = true) (ws : List Jvm.Cond) (p0 : Int32) (p1 : Int32) (p2 : Int32) (h0 : Heap) (n0 : Nat) (Z0 : n0 ≤ h0.size) :
    MetFree l x (head1 (Jvm.Cond.code x code maxLocals ret :: ws) room_1) (fun a U => a = #[(.int p0), (.int p1), (.int p2)] ∧ Z.Warmed39 U.vm ∧ U.heap = h0) (fun _ _ _ _ _ => True) (fun _ U o U' => ∃ v L, o = .returned v ∧ (fun v h L => v = some (.int 1) ∧ Fr n0 L) v U'.heap L ∧ FrameEnd U o U' L 0 0) := by
  refine MetFree.of_bodySF (plainFor_of_name pn_0) hisR ?_
  intro p e s m args below meth c s₁ Bd hml0 hP hK
  obtain ⟨rfl, hZ, hh⟩ := hP
  have hx := Bd.exec
  have hby := Bd.bytes
  have hret := Bd.returns
  have hlk := BodyLoose.notSynchronized Bd
  have hml : c.maxLocals = 10 := hml0
  have hown : s.vm.findClass "com/example/plumbline/plumbline/core/NodeResolveSizePinLaw" = some m.cls := findClass_of_methodNamed Bd.named
  have hnm := (name_of_methodNamed Bd.named Bd.method).1
  have X0 : Stand p l e room_1 s m #[(.int p0), (.int p1), (.int p2)] below meth c s₁ [] 0 0 := Stand.of_body Bd
  have e0 : s₁.heap = h0 := by rw [← hh, Bd.state]; rfl
  have N0 := Fr.nil n0
  show own_Ends p e below s 0 0 (fun v h L => v = some (.int 1) ∧ Fr n0 L) (s₁.setTop (entryFrame m #[(.int p0), (.int p1), (.int p2)] maxLocals))
  refine own_cast (ef_0 m p0 p1 p2) ?_
  show own_Ends p e below s _ _ _ (s₁.setTop (mkF m 0 #[.val (.int p0), .val (.int p1), .val (.int p2), .unset, .unset, .unset, .unset, .unset, .unset, .unset] []))
  refine own_step (fun t k => XS.iloadN X0.here hx rfl (hb hby at_0) rfl k) ?_
  show own_Ends p e below s _ _ _ (s₁.setTop (mkF m 1 #[.val (.int p0), .val (.int p1), .val (.int p2), .unset, .unset, .unset, .unset, .unset, .unset, .unset] [(.int p0)]))
  refine own_step (fun t k => X0.ldcInt hx hown (mvT hZ (hw _ (List.mem_of_getElem? (i := 0) rfl))) (g := (mkF m 1 #[.val (.int p0), .val (.int p1), .val (.int p2), .unset, .unset, .unset, .unset, .unset, .unset, .unset] [(.int p0)])) rfl (hb hby at_1) t k) ?_
  show own_Ends p e below s _ _ _ (s₁.setTop (mkF m 3 #[.val (.int p0), .val (.int p1), .val (.int p2), .unset, .unset, .unset, .unset, .unset, .unset, .unset] [(.int (1073741823 : Int32)), (.int p0)]))
  refine own_step (fun t k => XS.iand X0.here hx rfl (hb hby at_3) rfl k) ?_
  show own_Ends p e below s _ _ _ (s₁.setTop (mkF m 4 #[.val (.int p0), .val (.int p1), .val (.int p2), .unset, .unset, .unset, .unset, .unset, .unset, .unset] [(.int (p0 &&& (1073741823 : Int32)))]))
  refine own_step (fun t k => XS.istoreN X0.here hx rfl (hb hby at_4) rfl (l' := #[.val (.int p0), .val (.int p1), .val (.int p2), .val (.int (p0 &&& (1073741823 : Int32))), .unset, .unset, .unset, .unset, .unset, .unset]) rfl k) ?_
  show own_Ends p e below s _ _ _ (s₁.setTop (mkF m 5 #[.val (.int p0), .val (.int p1), .val (.int p2), .val (.int (p0 &&& (1073741823 : Int32))), .unset, .unset, .unset, .unset, .unset, .unset] []))
  refine own_step (fun t k => XS.iloadN X0.here hx rfl (hb hby at_5) rfl k) ?_
  show own_Ends p e below s _ _ _ (s₁.setTop (mkF m 6 #[.val (.int p0), .val (.int p1), .val (.int p2), .val (.int (p0 &&& (1073741823 : Int32))), .unset, .unset, .unset, .unset, .unset, .unset] [(.int p1)]))
  refine own_step (fun t k => X0.ldcInt hx hown (mvT hZ (hw _ (List.mem_of_getElem? (i := 0) rfl))) (g := (mkF m 6 #[.val (.int p0), .val (.int p1), .val (.int p2), .val (.int (p0 &&& (1073741823 : Int32))), .unset, .unset, .unset, .unset, .unset, .unset] [(.int p1)])) rfl (hb hby at_6) t k) ?_
  show own_Ends p e below s _ _ _ (s₁.setTop (mkF m 8 #[.val (.int p0), .val (.int p1), .val (.int p2), .val (.int (p0 &&& (1073741823 : Int32))), .unset, .unset, .unset, .unset, .unset, .unset] [(.int (1073741823 : Int32)), (.int p1)]))
  refine own_step (fun t k => XS.iand X0.here hx rfl (hb hby at_8) rfl k) ?_
  show own_Ends p e below s _ _ _ (s₁.setTop (mkF m 9 #[.val (.int p0), .val (.int p1), .val (.int p2), .val (.int (p0 &&& (1073741823 : Int32))), .unset, .unset, .unset, .unset, .unset, .unset] [(.int (p1 &&& (1073741823 : Int32)))]))
  refine own_step (fun t k => XS.istore X0.here hx rfl (hb hby at_9) rfl (l' := #[.val (.int p0), .val (.int p1), .val (.int p2), .val (.int (p0 &&& (1073741823 : Int32))), .val (.int (p1 &&& (1073741823 : Int32))), .unset, .unset, .unset, .unset, .unset]) rfl k) ?_
  show own_Ends p e below s _ _ _ (s₁.setTop (mkF m 11 #[.val (.int p0), .val (.int p1), .val (.int p2), .val (.int (p0 &&& (1073741823 : Int32))), .val (.int (p1 &&& (1073741823 : Int32))), .unset, .unset, .unset, .unset, .unset] []))
  refine own_step (fun t k => XS.iloadN X0.here hx rfl (hb hby at_11) rfl k) ?_
  show own_Ends p e below s _ _ _ (s₁.setTop (mkF m 12 #[.val (.int p0), .val (.int p1), .val (.int p2), .val (.int (p0 &&& (1073741823 : Int32))), .val (.int (p1 &&& (1073741823 : Int32))), .unset, .unset, .unset, .unset, .unset] [(.int p2)]))
  refine own_step (fun t k => X0.ldcInt hx hown (mvT hZ (hw _ (List.mem_of_getElem? (i := 1) rfl))) (g := (mkF m 12 #[.val (.int p0), .val (.int p1), .val (.int p2), .val (.int (p0 &&& (1073741823 : Int32))), .val (.int (p1 &&& (1073741823 : Int32))), .unset, .unset, .unset, .unset, .unset] [(.int p2)])) rfl (hb hby at_12) t k) ?_
  show own_Ends p e below s _ _ _ (s₁.setTop (mkF m 14 #[.val (.int p0), .val (.int p1), .val (.int p2), .val (.int (p0 &&& (1073741823 : Int32))), .val (.int (p1 &&& (1073741823 : Int32))), .unset, .unset, .unset, .unset, .unset] [(.int (2147483647 : Int32)), (.int p2)]))
  refine own_step (fun t k => XS.iand X0.here hx rfl (hb hby at_14) rfl k) ?_
  show own_Ends p e below s _ _ _ (s₁.setTop (mkF m 15 #[.val (.int p0), .val (.int p1), .val (.int p2), .val (.int (p0 &&& (1073741823 : Int32))), .val (.int (p1 &&& (1073741823 : Int32))), .unset, .unset, .unset, .unset, .unset] [(.int (p2 &&& (2147483647 : Int32)))]))
  refine own_step (fun t k => XS.iconst X0.here hx rfl (hb hby at_15) k) ?_
  show own_Ends p e below s _ _ _ (s₁.setTop (mkF m 16 #[.val (.int p0), .val (.int p1), .val (.int p2), .val (.int (p0 &&& (1073741823 : Int32))), .val (.int (p1 &&& (1073741823 : Int32))), .unset, .unset, .unset, .unset, .unset] [(.int (3 : Int32)), (.int (p2 &&& (2147483647 : Int32)))]))
  refine own_step (fun t k => iremM X0 hx rfl (hb hby at_16) rfl (by decide) k) ?_
  show own_Ends p e below s _ _ _ (s₁.setTop (mkF m 17 #[.val (.int p0), .val (.int p1), .val (.int p2), .val (.int (p0 &&& (1073741823 : Int32))), .val (.int (p1 &&& (1073741823 : Int32))), .unset, .unset, .unset, .unset, .unset] [(.int ((p2 &&& (2147483647 : Int32)) % (3 : Int32)))]))
  refine own_step (fun t k => XS.istore X0.here hx rfl (hb hby at_17) rfl (l' := #[.val (.int p0), .val (.int p1), .val (.int p2), .val (.int (p0 &&& (1073741823 : Int32))), .val (.int (p1 &&& (1073741823 : Int32))), .val (.int ((p2 &&& (2147483647 : Int32)) % (3 : Int32))), .unset, .unset, .unset, .unset]) rfl k) ?_
  show own_Ends p e below s _ _ _ (s₁.setTop (mkF m 19 #[.val (.int p0), .val (.int p1), .val (.int p2), .val (.int (p0 &&& (1073741823 : Int32))), .val (.int (p1 &&& (1073741823 : Int32))), .val (.int ((p2 &&& (2147483647 : Int32)) % (3 : Int32))), .unset, .unset, .unset, .unset] []))
  refine own_step (fun t k => XS.iload X0.here hx rfl (hb hby at_19) rfl k) ?_
  show own_Ends p e below s _ _ _ (s₁.setTop (mkF m 21 #[.val (.int p0), .val (.int p1), .val (.int p2), .val (.int (p0 &&& (1073741823 : Int32))), .val (.int (p1 &&& (1073741823 : Int32))), .val (.int ((p2 &&& (2147483647 : Int32)) % (3 : Int32))), .unset, .unset, .unset, .unset] [(.int (p1 &&& (1073741823 : Int32)))]))
  refine own_step (fun t k => XS.iload X0.here hx rfl (hb hby at_21) rfl k) ?_
  show own_Ends p e below s _ _ _ (s₁.setTop (mkF m 23 #[.val (.int p0), .val (.int p1), .val (.int p2), .val (.int (p0 &&& (1073741823 : Int32))), .val (.int (p1 &&& (1073741823 : Int32))), .val (.int ((p2 &&& (2147483647 : Int32)) % (3 : Int32))), .unset, .unset, .unset, .unset] [(.int ((p2 &&& (2147483647 : Int32)) % (3 : Int32))), (.int (p1 &&& (1073741823 : Int32)))]))
  refine own_step (fun t k => XS.bipush X0.here hx rfl (hb hby at_23) k) ?_
  show own_Ends p e below s _ _ _ (s₁.setTop (mkF m 25 #[.val (.int p0), .val (.int p1), .val (.int p2), .val (.int (p0 &&& (1073741823 : Int32))), .val (.int (p1 &&& (1073741823 : Int32))), .val (.int ((p2 &&& (2147483647 : Int32)) % (3 : Int32))), .unset, .unset, .unset, .unset] [(.int (30 : Int32)), (.int ((p2 &&& (2147483647 : Int32)) % (3 : Int32))), (.int (p1 &&& (1073741823 : Int32)))]))
  refine own_step (fun t k => XS.ishl X0.here hx rfl (hb hby at_25) rfl k) ?_
  show own_Ends p e below s _ _ _ (s₁.setTop (mkF m 26 #[.val (.int p0), .val (.int p1), .val (.int p2), .val (.int (p0 &&& (1073741823 : Int32))), .val (.int (p1 &&& (1073741823 : Int32))), .val (.int ((p2 &&& (2147483647 : Int32)) % (3 : Int32))), .unset, .unset, .unset, .unset] [(.int (((p2 &&& (2147483647 : Int32)) % (3 : Int32)) <<< ((30 : Int32) &&& 31))), (.int (p1 &&& (1073741823 : Int32)))]))
  refine own_step (fun t k => XS.ior X0.here hx rfl (hb hby at_26) rfl k) ?_
  show own_Ends p e below s _ _ _ (s₁.setTop (mkF m 27 #[.val (.int p0), .val (.int p1), .val (.int p2), .val (.int (p0 &&& (1073741823 : Int32))), .val (.int (p1 &&& (1073741823 : Int32))), .val (.int ((p2 &&& (2147483647 : Int32)) % (3 : Int32))), .unset, .unset, .unset, .unset] [(.int ((p1 &&& (1073741823 : Int32)) ||| (((p2 &&& (2147483647 : Int32)) % (3 : Int32)) <<< ((30 : Int32) &&& 31))))]))
  refine own_step (fun t k => XS.istore X0.here hx rfl (hb hby at_27) rfl (l' := #[.val (.int p0), .val (.int p1), .val (.int p2), .val (.int (p0 &&& (1073741823 : Int32))), .val (.int (p1 &&& (1073741823 : Int32))), .val (.int ((p2 &&& (2147483647 : Int32)) % (3 : Int32))), .val (.int ((p1 &&& (1073741823 : Int32)) ||| (((p2 &&& (2147483647 : Int32)) % (3 : Int32)) <<< ((30 : Int32) &&& 31)))), .unset, .unset, .unset]) rfl k) ?_
  show own_Ends p e below s _ _ _ (s₁.setTop (mkF m 29 #[.val (.int p0), .val (.int p1), .val (.int p2), .val (.int (p0 &&& (1073741823 : Int32))), .val (.int (p1 &&& (1073741823 : Int32))), .val (.int ((p2 &&& (2147483647 : Int32)) % (3 : Int32))), .val (.int ((p1 &&& (1073741823 : Int32)) ||| (((p2 &&& (2147483647 : Int32)) % (3 : Int32)) <<< ((30 : Int32) &&& 31)))), .unset, .unset, .unset] []))
  refine own_step (fun t k => XS.iloadN X0.here hx rfl (hb hby at_29) rfl k) ?_
  show own_Ends p e below s _ _ _ (s₁.setTop (mkF m 30 #[.val (.int p0), .val (.int p1), .val (.int p2), .val (.int (p0 &&& (1073741823 : Int32))), .val (.int (p1 &&& (1073741823 : Int32))), .val (.int ((p2 &&& (2147483647 : Int32)) % (3 : Int32))), .val (.int ((p1 &&& (1073741823 : Int32)) ||| (((p2 &&& (2147483647 : Int32)) % (3 : Int32)) <<< ((30 : Int32) &&& 31)))), .unset, .unset, .unset] [(.int (p0 &&& (1073741823 : Int32)))]))
  refine own_step (fun t k => XS.iload X0.here hx rfl (hb hby at_30) rfl k) ?_
  show own_Ends p e below s _ _ _ (s₁.setTop (mkF m 32 #[.val (.int p0), .val (.int p1), .val (.int p2), .val (.int (p0 &&& (1073741823 : Int32))), .val (.int (p1 &&& (1073741823 : Int32))), .val (.int ((p2 &&& (2147483647 : Int32)) % (3 : Int32))), .val (.int ((p1 &&& (1073741823 : Int32)) ||| (((p2 &&& (2147483647 : Int32)) % (3 : Int32)) <<< ((30 : Int32) &&& 31)))), .unset, .unset, .unset] [(.int ((p1 &&& (1073741823 : Int32)) ||| (((p2 &&& (2147483647 : Int32)) % (3 : Int32)) <<< ((30 : Int32) &&& 31)))), (.int (p0 &&& (1073741823 : Int32)))]))
  obtain ⟨_, _, ⟨T1, L1, k1, n1⟩, -, X1, ⟨Lc1, hQ1, l1, y1, z1⟩, st1⟩ := Jvm.LawKit.callS X0 hx (y := (⟨"com/example/plumbline/plumbline/core/Node", "resolveSize", "(II)I"⟩ : MethodName)) hown (mvT hZ (hw _ (List.mem_of_getElem? (i := 2) rfl))) (mvT hZ (hw _ (List.mem_of_getElem? (i := 3) rfl))) (mvT hZ (hw _ (List.mem_of_getElem? (i := 4) rfl))) (mvT hZ (hw _ (List.mem_of_getElem? (i := 5) rfl))) (by decide) (backOf (W := 0) (rm1 l Z a0 hw [] (p0 &&& (1073741823 : Int32)) ((p1 &&& (1073741823 : Int32)) ||| (((p2 &&& (2147483647 : Int32)) % (3 : Int32)) <<< ((30 : Int32) &&& 31)))  h0 n0  ) hZ (hw _ (List.mem_of_getElem? (i := 5) rfl)) (hw _ (List.mem_of_getElem? (i := 4) rfl)) (by decide) (by decide)) (g := (mkF m 32 #[.val (.int p0), .val (.int p1), .val (.int p2), .val (.int (p0 &&& (1073741823 : Int32))), .val (.int (p1 &&& (1073741823 : Int32))), .val (.int ((p2 &&& (2147483647 : Int32)) % (3 : Int32))), .val (.int ((p1 &&& (1073741823 : Int32)) ||| (((p2 &&& (2147483647 : Int32)) % (3 : Int32)) <<< ((30 : Int32) &&& 31)))), .unset, .unset, .unset] [(.int ((p1 &&& (1073741823 : Int32)) ||| (((p2 &&& (2147483647 : Int32)) % (3 : Int32)) <<< ((30 : Int32) &&& 31)))), (.int (p0 &&& (1073741823 : Int32)))])) rfl (by rw [hml]; rfl) (argsL := [(.int (p0 &&& (1073741823 : Int32))), (.int ((p1 &&& (1073741823 : Int32)) ||| (((p2 &&& (2147483647 : Int32)) % (3 : Int32)) <<< ((30 : Int32) &&& 31))))]) (rest := []) (lenOf pd0_0 rfl) rfl (by show 2 * 0 + _ ≤ _; exact Nat.le_of_eq rfl) (hb hby at_32) (fun _ _ => ⟨rfl, e0, (by decide : 0 + 0 ≤ _), (by decide : 0 + 0 ≤ _)⟩)
  dsimp only [Pt.U, Pt.locs, Pt.cells, Pt.slots] at X1 l1 y1 z1 st1 hQ1
  subst l1 y1 z1
  obtain ⟨rfl, N1q, e1⟩ := hQ1
  have N1 := Fr.app N0 N1q
  refine own_step st1 ?_
  show own_Ends p e below s _ _ _ (T1.setTop (mkF m 35 #[.val (.int p0), .val (.int p1), .val (.int p2), .val (.int (p0 &&& (1073741823 : Int32))), .val (.int (p1 &&& (1073741823 : Int32))), .val (.int ((p2 &&& (2147483647 : Int32)) % (3 : Int32))), .val (.int ((p1 &&& (1073741823 : Int32)) ||| (((p2 &&& (2147483647 : Int32)) % (3 : Int32)) <<< ((30 : Int32) &&& 31)))), .unset, .unset, .unset] [(.int (f1_0 (p0 &&& (1073741823 : Int32)) ((p1 &&& (1073741823 : Int32)) ||| (((p2 &&& (2147483647 : Int32)) % (3 : Int32)) <<< ((30 : Int32) &&& 31)))))]))
  refine own_step (fun t k => XS.istore X1.here hx rfl (hb hby at_35) rfl (l' := #[.val (.int p0), .val (.int p1), .val (.int p2), .val (.int (p0 &&& (1073741823 : Int32))), .val (.int (p1 &&& (1073741823 : Int32))), .val (.int ((p2 &&& (2147483647 : Int32)) % (3 : Int32))), .val (.int ((p1 &&& (1073741823 : Int32)) ||| (((p2 &&& (2147483647 : Int32)) % (3 : Int32)) <<< ((30 : Int32) &&& 31)))), .val (.int (f1_0 (p0 &&& (1073741823 : Int32)) ((p1 &&& (1073741823 : Int32)) ||| (((p2 &&& (2147483647 : Int32)) % (3 : Int32)) <<< ((30 : Int32) &&& 31))))), .unset, .unset]) rfl k) ?_
  show own_Ends p e below s _ _ _ (T1.setTop (mkF m 37 #[.val (.int p0), .val (.int p1), .val (.int p2), .val (.int (p0 &&& (1073741823 : Int32))), .val (.int (p1 &&& (1073741823 : Int32))), .val (.int ((p2 &&& (2147483647 : Int32)) % (3 : Int32))), .val (.int ((p1 &&& (1073741823 : Int32)) ||| (((p2 &&& (2147483647 : Int32)) % (3 : Int32)) <<< ((30 : Int32) &&& 31)))), .val (.int (f1_0 (p0 &&& (1073741823 : Int32)) ((p1 &&& (1073741823 : Int32)) ||| (((p2 &&& (2147483647 : Int32)) % (3 : Int32)) <<< ((30 : Int32) &&& 31))))), .unset, .unset] []))
  refine own_step (fun t k => XS.iload X1.here hx rfl (hb hby at_37) rfl k) ?_
  show own_Ends p e below s _ _ _ (T1.setTop (mkF m 39 #[.val (.int p0), .val (.int p1), .val (.int p2), .val (.int (p0 &&& (1073741823 : Int32))), .val (.int (p1 &&& (1073741823 : Int32))), .val (.int ((p2 &&& (2147483647 : Int32)) % (3 : Int32))), .val (.int ((p1 &&& (1073741823 : Int32)) ||| (((p2 &&& (2147483647 : Int32)) % (3 : Int32)) <<< ((30 : Int32) &&& 31)))), .val (.int (f1_0 (p0 &&& (1073741823 : Int32)) ((p1 &&& (1073741823 : Int32)) ||| (((p2 &&& (2147483647 : Int32)) % (3 : Int32)) <<< ((30 : Int32) &&& 31))))), .unset, .unset] [(.int ((p2 &&& (2147483647 : Int32)) % (3 : Int32)))]))
  by_cases hc39_2 : ((p2 &&& (2147483647 : Int32)) % (3 : Int32)) = (0 : Int32)
  · -- ((p2 &&& (2147483647 : Int32)) % (3 : Int32)) = (0 : Int32)
    refine own_step (fun t k => XS.ifNo X1.here hx rfl (hb hby at_39) rfl ((if0 _ _).trans (teq hc39_2).2) k) ?_
    show own_Ends p e below s _ _ _ (T1.setTop (mkF m 42 #[.val (.int p0), .val (.int p1), .val (.int p2), .val (.int (p0 &&& (1073741823 : Int32))), .val (.int (p1 &&& (1073741823 : Int32))), .val (.int ((p2 &&& (2147483647 : Int32)) % (3 : Int32))), .val (.int ((p1 &&& (1073741823 : Int32)) ||| (((p2 &&& (2147483647 : Int32)) % (3 : Int32)) <<< ((30 : Int32) &&& 31)))), .val (.int (f1_0 (p0 &&& (1073741823 : Int32)) ((p1 &&& (1073741823 : Int32)) ||| (((p2 &&& (2147483647 : Int32)) % (3 : Int32)) <<< ((30 : Int32) &&& 31))))), .unset, .unset] []))
    refine own_step (fun t k => XS.iloadN X1.here hx rfl (hb hby at_42) rfl k) ?_
    show own_Ends p e below s _ _ _ (T1.setTop (mkF m 43 #[.val (.int p0), .val (.int p1), .val (.int p2), .val (.int (p0 &&& (1073741823 : Int32))), .val (.int (p1 &&& (1073741823 : Int32))), .val (.int ((p2 &&& (2147483647 : Int32)) % (3 : Int32))), .val (.int ((p1 &&& (1073741823 : Int32)) ||| (((p2 &&& (2147483647 : Int32)) % (3 : Int32)) <<< ((30 : Int32) &&& 31)))), .val (.int (f1_0 (p0 &&& (1073741823 : Int32)) ((p1 &&& (1073741823 : Int32)) ||| (((p2 &&& (2147483647 : Int32)) % (3 : Int32)) <<< ((30 : Int32) &&& 31))))), .unset, .unset] [(.int (p0 &&& (1073741823 : Int32)))]))
    refine own_step (fun t k => XS.istore X1.here hx rfl (hb hby at_43) rfl (l' := #[.val (.int p0), .val (.int p1), .val (.int p2), .val (.int (p0 &&& (1073741823 : Int32))), .val (.int (p1 &&& (1073741823 : Int32))), .val (.int ((p2 &&& (2147483647 : Int32)) % (3 : Int32))), .val (.int ((p1 &&& (1073741823 : Int32)) ||| (((p2 &&& (2147483647 : Int32)) % (3 : Int32)) <<< ((30 : Int32) &&& 31)))), .val (.int (f1_0 (p0 &&& (1073741823 : Int32)) ((p1 &&& (1073741823 : Int32)) ||| (((p2 &&& (2147483647 : Int32)) % (3 : Int32)) <<< ((30 : Int32) &&& 31))))), .val (.int (p0 &&& (1073741823 : Int32))), .unset]) rfl k) ?_
    show own_Ends p e below s _ _ _ (T1.setTop (mkF m 45 #[.val (.int p0), .val (.int p1), .val (.int p2), .val (.int (p0 &&& (1073741823 : Int32))), .val (.int (p1 &&& (1073741823 : Int32))), .val (.int ((p2 &&& (2147483647 : Int32)) % (3 : Int32))), .val (.int ((p1 &&& (1073741823 : Int32)) ||| (((p2 &&& (2147483647 : Int32)) % (3 : Int32)) <<< ((30 : Int32) &&& 31)))), .val (.int (f1_0 (p0 &&& (1073741823 : Int32)) ((p1 &&& (1073741823 : Int32)) ||| (((p2 &&& (2147483647 : Int32)) % (3 : Int32)) <<< ((30 : Int32) &&& 31))))), .val (.int (p0 &&& (1073741823 : Int32))), .unset] []))
    refine own_step (fun t k => XS.goto X1.here hx rfl (pc0 := 45) (pc' := 89) rfl (hb hby at_45) (by decide) (by decide) k) ?_
    show own_Ends p e below s _ _ _ (T1.setTop (mkF m 89 #[.val (.int p0), .val (.int p1), .val (.int p2), .val (.int (p0 &&& (1073741823 : Int32))), .val (.int (p1 &&& (1073741823 : Int32))), .val (.int ((p2 &&& (2147483647 : Int32)) % (3 : Int32))), .val (.int ((p1 &&& (1073741823 : Int32)) ||| (((p2 &&& (2147483647 : Int32)) % (3 : Int32)) <<< ((30 : Int32) &&& 31)))), .val (.int (f1_0 (p0 &&& (1073741823 : Int32)) ((p1 &&& (1073741823 : Int32)) ||| (((p2 &&& (2147483647 : Int32)) % (3 : Int32)) <<< ((30 : Int32) &&& 31))))), .val (.int (p0 &&& (1073741823 : Int32))), .unset] []))
    refine own_step (fun t k => XS.iload X1.here hx rfl (hb hby at_89) rfl k) ?_
    show own_Ends p e below s _ _ _ (T1.setTop (mkF m 91 #[.val (.int p0), .val (.int p1), .val (.int p2), .val (.int (p0 &&& (1073741823 : Int32))), .val (.int (p1 &&& (1073741823 : Int32))), .val (.int ((p2 &&& (2147483647 : Int32)) % (3 : Int32))), .val (.int ((p1 &&& (1073741823 : Int32)) ||| (((p2 &&& (2147483647 : Int32)) % (3 : Int32)) <<< ((30 : Int32) &&& 31)))), .val (.int (f1_0 (p0 &&& (1073741823 : Int32)) ((p1 &&& (1073741823 : Int32)) ||| (((p2 &&& (2147483647 : Int32)) % (3 : Int32)) <<< ((30 : Int32) &&& 31))))), .val (.int (p0 &&& (1073741823 : Int32))), .unset] [(.int (f1_0 (p0 &&& (1073741823 : Int32)) ((p1 &&& (1073741823 : Int32)) ||| (((p2 &&& (2147483647 : Int32)) % (3 : Int32)) <<< ((30 : Int32) &&& 31)))))]))
    refine own_step (fun t k => XS.iload X1.here hx rfl (hb hby at_91) rfl k) ?_
    show own_Ends p e below s _ _ _ (T1.setTop (mkF m 93 #[.val (.int p0), .val (.int p1), .val (.int p2), .val (.int (p0 &&& (1073741823 : Int32))), .val (.int (p1 &&& (1073741823 : Int32))), .val (.int ((p2 &&& (2147483647 : Int32)) % (3 : Int32))), .val (.int ((p1 &&& (1073741823 : Int32)) ||| (((p2 &&& (2147483647 : Int32)) % (3 : Int32)) <<< ((30 : Int32) &&& 31)))), .val (.int (f1_0 (p0 &&& (1073741823 : Int32)) ((p1 &&& (1073741823 : Int32)) ||| (((p2 &&& (2147483647 : Int32)) % (3 : Int32)) <<< ((30 : Int32) &&& 31))))), .val (.int (p0 &&& (1073741823 : Int32))), .unset] [(.int (p0 &&& (1073741823 : Int32))), (.int (f1_0 (p0 &&& (1073741823 : Int32)) ((p1 &&& (1073741823 : Int32)) ||| (((p2 &&& (2147483647 : Int32)) % (3 : Int32)) <<< ((30 : Int32) &&& 31)))))]))
    refine own_step (fun t k => XS.icmpNo X1.here hx rfl (hb hby at_93) rfl (teq (own_l0 p0 p1 p2 hc39_2)).2 k) ?_
    show own_Ends p e below s _ _ _ (T1.setTop (mkF m 96 #[.val (.int p0), .val (.int p1), .val (.int p2), .val (.int (p0 &&& (1073741823 : Int32))), .val (.int (p1 &&& (1073741823 : Int32))), .val (.int ((p2 &&& (2147483647 : Int32)) % (3 : Int32))), .val (.int ((p1 &&& (1073741823 : Int32)) ||| (((p2 &&& (2147483647 : Int32)) % (3 : Int32)) <<< ((30 : Int32) &&& 31)))), .val (.int (f1_0 (p0 &&& (1073741823 : Int32)) ((p1 &&& (1073741823 : Int32)) ||| (((p2 &&& (2147483647 : Int32)) % (3 : Int32)) <<< ((30 : Int32) &&& 31))))), .val (.int (p0 &&& (1073741823 : Int32))), .unset] []))
    refine own_step (fun t k => XS.iconst X1.here hx rfl (hb hby at_96) k) ?_
    show own_Ends p e below s _ _ _ (T1.setTop (mkF m 97 #[.val (.int p0), .val (.int p1), .val (.int p2), .val (.int (p0 &&& (1073741823 : Int32))), .val (.int (p1 &&& (1073741823 : Int32))), .val (.int ((p2 &&& (2147483647 : Int32)) % (3 : Int32))), .val (.int ((p1 &&& (1073741823 : Int32)) ||| (((p2 &&& (2147483647 : Int32)) % (3 : Int32)) <<< ((30 : Int32) &&& 31)))), .val (.int (f1_0 (p0 &&& (1073741823 : Int32)) ((p1 &&& (1073741823 : Int32)) ||| (((p2 &&& (2147483647 : Int32)) % (3 : Int32)) <<< ((30 : Int32) &&& 31))))), .val (.int (p0 &&& (1073741823 : Int32))), .unset] [(.int (1 : Int32))]))
    refine own_step (fun t k => XS.goto X1.here hx rfl (pc0 := 97) (pc' := 101) rfl (hb hby at_97) (by decide) (by decide) k) ?_
    show own_Ends p e below s _ _ _ (T1.setTop (mkF m 101 #[.val (.int p0), .val (.int p1), .val (.int p2), .val (.int (p0 &&& (1073741823 : Int32))), .val (.int (p1 &&& (1073741823 : Int32))), .val (.int ((p2 &&& (2147483647 : Int32)) % (3 : Int32))), .val (.int ((p1 &&& (1073741823 : Int32)) ||| (((p2 &&& (2147483647 : Int32)) % (3 : Int32)) <<< ((30 : Int32) &&& 31)))), .val (.int (f1_0 (p0 &&& (1073741823 : Int32)) ((p1 &&& (1073741823 : Int32)) ||| (((p2 &&& (2147483647 : Int32)) % (3 : Int32)) <<< ((30 : Int32) &&& 31))))), .val (.int (p0 &&& (1073741823 : Int32))), .unset] [(.int (1 : Int32))]))
    exact own_retN X1 hx hlk (t := .boolean) hret (by simp) (hb hby at_101) (w := (1 : Int32)) (by decide) ⟨rfl, N1⟩ (by decide) (by decide)
  · -- not ((p2 &&& (2147483647 : Int32)) % (3 : Int32)) = (0 : Int32)
    refine own_step (fun t k => XS.ifYes X1.here hx rfl (pc0 := 39) (pc' := 48) rfl (hb hby at_39) rfl ((if0 _ _).trans (feq hc39_2).2) (by decide) (by decide) k) ?_
    show own_Ends p e below s _ _ _ (T1.setTop (mkF m 48 #[.val (.int p0), .val (.int p1), .val (.int p2), .val (.int (p0 &&& (1073741823 : Int32))), .val (.int (p1 &&& (1073741823 : Int32))), .val (.int ((p2 &&& (2147483647 : Int32)) % (3 : Int32))), .val (.int ((p1 &&& (1073741823 : Int32)) ||| (((p2 &&& (2147483647 : Int32)) % (3 : Int32)) <<< ((30 : Int32) &&& 31)))), .val (.int (f1_0 (p0 &&& (1073741823 : Int32)) ((p1 &&& (1073741823 : Int32)) ||| (((p2 &&& (2147483647 : Int32)) % (3 : Int32)) <<< ((30 : Int32) &&& 31))))), .unset, .unset] []))
    refine own_step (fun t k => XS.iload X1.here hx rfl (hb hby at_48) rfl k) ?_
    show own_Ends p e below s _ _ _ (T1.setTop (mkF m 50 #[.val (.int p0), .val (.int p1), .val (.int p2), .val (.int (p0 &&& (1073741823 : Int32))), .val (.int (p1 &&& (1073741823 : Int32))), .val (.int ((p2 &&& (2147483647 : Int32)) % (3 : Int32))), .val (.int ((p1 &&& (1073741823 : Int32)) ||| (((p2 &&& (2147483647 : Int32)) % (3 : Int32)) <<< ((30 : Int32) &&& 31)))), .val (.int (f1_0 (p0 &&& (1073741823 : Int32)) ((p1 &&& (1073741823 : Int32)) ||| (((p2 &&& (2147483647 : Int32)) % (3 : Int32)) <<< ((30 : Int32) &&& 31))))), .unset, .unset] [(.int ((p2 &&& (2147483647 : Int32)) % (3 : Int32)))]))
    refine own_step (fun t k => XS.iconst X1.here hx rfl (hb hby at_50) k) ?_
    show own_Ends p e below s _ _ _ (T1.setTop (mkF m 51 #[.val (.int p0), .val (.int p1), .val (.int p2), .val (.int (p0 &&& (1073741823 : Int32))), .val (.int (p1 &&& (1073741823 : Int32))), .val (.int ((p2 &&& (2147483647 : Int32)) % (3 : Int32))), .val (.int ((p1 &&& (1073741823 : Int32)) ||| (((p2 &&& (2147483647 : Int32)) % (3 : Int32)) <<< ((30 : Int32) &&& 31)))), .val (.int (f1_0 (p0 &&& (1073741823 : Int32)) ((p1 &&& (1073741823 : Int32)) ||| (((p2 &&& (2147483647 : Int32)) % (3 : Int32)) <<< ((30 : Int32) &&& 31))))), .unset, .unset] [(.int (1 : Int32)), (.int ((p2 &&& (2147483647 : Int32)) % (3 : Int32)))]))
    by_cases hc51_3 : ((p2 &&& (2147483647 : Int32)) % (3 : Int32)) = (1 : Int32)
    · -- ((p2 &&& (2147483647 : Int32)) % (3 : Int32)) = (1 : Int32)
      refine own_step (fun t k => XS.icmpNo X1.here hx rfl (hb hby at_51) rfl (teq hc51_3).2 k) ?_
      show own_Ends p e below s _ _ _ (T1.setTop (mkF m 54 #[.val (.int p0), .val (.int p1), .val (.int p2), .val (.int (p0 &&& (1073741823 : Int32))), .val (.int (p1 &&& (1073741823 : Int32))), .val (.int ((p2 &&& (2147483647 : Int32)) % (3 : Int32))), .val (.int ((p1 &&& (1073741823 : Int32)) ||| (((p2 &&& (2147483647 : Int32)) % (3 : Int32)) <<< ((30 : Int32) &&& 31)))), .val (.int (f1_0 (p0 &&& (1073741823 : Int32)) ((p1 &&& (1073741823 : Int32)) ||| (((p2 &&& (2147483647 : Int32)) % (3 : Int32)) <<< ((30 : Int32) &&& 31))))), .unset, .unset] []))
      refine own_step (fun t k => XS.iload X1.here hx rfl (hb hby at_54) rfl k) ?_
      show own_Ends p e below s _ _ _ (T1.setTop (mkF m 56 #[.val (.int p0), .val (.int p1), .val (.int p2), .val (.int (p0 &&& (1073741823 : Int32))), .val (.int (p1 &&& (1073741823 : Int32))), .val (.int ((p2 &&& (2147483647 : Int32)) % (3 : Int32))), .val (.int ((p1 &&& (1073741823 : Int32)) ||| (((p2 &&& (2147483647 : Int32)) % (3 : Int32)) <<< ((30 : Int32) &&& 31)))), .val (.int (f1_0 (p0 &&& (1073741823 : Int32)) ((p1 &&& (1073741823 : Int32)) ||| (((p2 &&& (2147483647 : Int32)) % (3 : Int32)) <<< ((30 : Int32) &&& 31))))), .unset, .unset] [(.int (p1 &&& (1073741823 : Int32)))]))
      refine own_step (fun t k => XS.istore X1.here hx rfl (hb hby at_56) rfl (l' := #[.val (.int p0), .val (.int p1), .val (.int p2), .val (.int (p0 &&& (1073741823 : Int32))), .val (.int (p1 &&& (1073741823 : Int32))), .val (.int ((p2 &&& (2147483647 : Int32)) % (3 : Int32))), .val (.int ((p1 &&& (1073741823 : Int32)) ||| (((p2 &&& (2147483647 : Int32)) % (3 : Int32)) <<< ((30 : Int32) &&& 31)))), .val (.int (f1_0 (p0 &&& (1073741823 : Int32)) ((p1 &&& (1073741823 : Int32)) ||| (((p2 &&& (2147483647 : Int32)) % (3 : Int32)) <<< ((30 : Int32) &&& 31))))), .val (.int (p1 &&& (1073741823 : Int32))), .unset]) rfl k) ?_
      show own_Ends p e below s _ _ _ (T1.setTop (mkF m 58 #[.val (.int p0), .val (.int p1), .val (.int p2), .val (.int (p0 &&& (1073741823 : Int32))), .val (.int (p1 &&& (1073741823 : Int32))), .val (.int ((p2 &&& (2147483647 : Int32)) % (3 : Int32))), .val (.int ((p1 &&& (1073741823 : Int32)) ||| (((p2 &&& (2147483647 : Int32)) % (3 : Int32)) <<< ((30 : Int32) &&& 31)))), .val (.int (f1_0 (p0 &&& (1073741823 : Int32)) ((p1 &&& (1073741823 : Int32)) ||| (((p2 &&& (2147483647 : Int32)) % (3 : Int32)) <<< ((30 : Int32) &&& 31))))), .val (.int (p1 &&& (1073741823 : Int32))), .unset] []))
      refine own_step (fun t k => XS.goto X1.here hx rfl (pc0 := 58) (pc' := 89) rfl (hb hby at_58) (by decide) (by decide) k) ?_
      show own_Ends p e below s _ _ _ (T1.setTop (mkF m 89 #[.val (.int p0), .val (.int p1), .val (.int p2), .val (.int (p0 &&& (1073741823 : Int32))), .val (.int (p1 &&& (1073741823 : Int32))), .val (.int ((p2 &&& (2147483647 : Int32)) % (3 : Int32))), .val (.int ((p1 &&& (1073741823 : Int32)) ||| (((p2 &&& (2147483647 : Int32)) % (3 : Int32)) <<< ((30 : Int32) &&& 31)))), .val (.int (f1_0 (p0 &&& (1073741823 : Int32)) ((p1 &&& (1073741823 : Int32)) ||| (((p2 &&& (2147483647 : Int32)) % (3 : Int32)) <<< ((30 : Int32) &&& 31))))), .val (.int (p1 &&& (1073741823 : Int32))), .unset] []))
      refine own_step (fun t k => XS.iload X1.here hx rfl (hb hby at_89) rfl k) ?_
      show own_Ends p e below s _ _ _ (T1.setTop (mkF m 91 #[.val (.int p0), .val (.int p1), .val (.int p2), .val (.int (p0 &&& (1073741823 : Int32))), .val (.int (p1 &&& (1073741823 : Int32))), .val (.int ((p2 &&& (2147483647 : Int32)) % (3 : Int32))), .val (.int ((p1 &&& (1073741823 : Int32)) ||| (((p2 &&& (2147483647 : Int32)) % (3 : Int32)) <<< ((30 : Int32) &&& 31)))), .val (.int (f1_0 (p0 &&& (1073741823 : Int32)) ((p1 &&& (1073741823 : Int32)) ||| (((p2 &&& (2147483647 : Int32)) % (3 : Int32)) <<< ((30 : Int32) &&& 31))))), .val (.int (p1 &&& (1073741823 : Int32))), .unset] [(.int (f1_0 (p0 &&& (1073741823 : Int32)) ((p1 &&& (1073741823 : Int32)) ||| (((p2 &&& (2147483647 : Int32)) % (3 : Int32)) <<< ((30 : Int32) &&& 31)))))]))
      refine own_step (fun t k => XS.iload X1.here hx rfl (hb hby at_91) rfl k) ?_
      show own_Ends p e below s _ _ _ (T1.setTop (mkF m 93 #[.val (.int p0), .val (.int p1), .val (.int p2), .val (.int (p0 &&& (1073741823 : Int32))), .val (.int (p1 &&& (1073741823 : Int32))), .val (.int ((p2 &&& (2147483647 : Int32)) % (3 : Int32))), .val (.int ((p1 &&& (1073741823 : Int32)) ||| (((p2 &&& (2147483647 : Int32)) % (3 : Int32)) <<< ((30 : Int32) &&& 31)))), .val (.int (f1_0 (p0 &&& (1073741823 : Int32)) ((p1 &&& (1073741823 : Int32)) ||| (((p2 &&& (2147483647 : Int32)) % (3 : Int32)) <<< ((30 : Int32) &&& 31))))), .val (.int (p1 &&& (1073741823 : Int32))), .unset] [(.int (p1 &&& (1073741823 : Int32))), (.int (f1_0 (p0 &&& (1073741823 : Int32)) ((p1 &&& (1073741823 : Int32)) ||| (((p2 &&& (2147483647 : Int32)) % (3 : Int32)) <<< ((30 : Int32) &&& 31)))))]))
      refine own_step (fun t k => XS.icmpNo X1.here hx rfl (hb hby at_93) rfl (teq (own_l1 p0 p1 p2 hc39_2 hc51_3)).2 k) ?_
      show own_Ends p e below s _ _ _ (T1.setTop (mkF m 96 #[.val (.int p0), .val (.int p1), .val (.int p2), .val (.int (p0 &&& (1073741823 : Int32))), .val (.int (p1 &&& (1073741823 : Int32))), .val (.int ((p2 &&& (2147483647 : Int32)) % (3 : Int32))), .val (.int ((p1 &&& (1073741823 : Int32)) ||| (((p2 &&& (2147483647 : Int32)) % (3 : Int32)) <<< ((30 : Int32) &&& 31)))), .val (.int (f1_0 (p0 &&& (1073741823 : Int32)) ((p1 &&& (1073741823 : Int32)) ||| (((p2 &&& (2147483647 : Int32)) % (3 : Int32)) <<< ((30 : Int32) &&& 31))))), .val (.int (p1 &&& (1073741823 : Int32))), .unset] []))
      refine own_step (fun t k => XS.iconst X1.here hx rfl (hb hby at_96) k) ?_
      show own_Ends p e below s _ _ _ (T1.setTop (mkF m 97 #[.val (.int p0), .val (.int p1), .val (.int p2), .val (.int (p0 &&& (1073741823 : Int32))), .val (.int (p1 &&& (1073741823 : Int32))), .val (.int ((p2 &&& (2147483647 : Int32)) % (3 : Int32))), .val (.int ((p1 &&& (1073741823 : Int32)) ||| (((p2 &&& (2147483647 : Int32)) % (3 : Int32)) <<< ((30 : Int32) &&& 31)))), .val (.int (f1_0 (p0 &&& (1073741823 : Int32)) ((p1 &&& (1073741823 : Int32)) ||| (((p2 &&& (2147483647 : Int32)) % (3 : Int32)) <<< ((30 : Int32) &&& 31))))), .val (.int (p1 &&& (1073741823 : Int32))), .unset] [(.int (1 : Int32))]))
      refine own_step (fun t k => XS.goto X1.here hx rfl (pc0 := 97) (pc' := 101) rfl (hb hby at_97) (by decide) (by decide) k) ?_
      show own_Ends p e below s _ _ _ (T1.setTop (mkF m 101 #[.val (.int p0), .val (.int p1), .val (.int p2), .val (.int (p0 &&& (1073741823 : Int32))), .val (.int (p1 &&& (1073741823 : Int32))), .val (.int ((p2 &&& (2147483647 : Int32)) % (3 : Int32))), .val (.int ((p1 &&& (1073741823 : Int32)) ||| (((p2 &&& (2147483647 : Int32)) % (3 : Int32)) <<< ((30 : Int32) &&& 31)))), .val (.int (f1_0 (p0 &&& (1073741823 : Int32)) ((p1 &&& (1073741823 : Int32)) ||| (((p2 &&& (2147483647 : Int32)) % (3 : Int32)) <<< ((30 : Int32) &&& 31))))), .val (.int (p1 &&& (1073741823 : Int32))), .unset] [(.int (1 : Int32))]))
      exact own_retN X1 hx hlk (t := .boolean) hret (by simp) (hb hby at_101) (w := (1 : Int32)) (by decide) ⟨rfl, N1⟩ (by decide) (by decide)
    · -- not ((p2 &&& (2147483647 : Int32)) % (3 : Int32)) = (1 : Int32)
      refine own_step (fun t k => XS.icmpYes X1.here hx rfl (pc0 := 51) (pc' := 61) rfl (hb hby at_51) rfl (feq hc51_3).2 (by decide) (by decide) k) ?_
      show own_Ends p e below s _ _ _ (T1.setTop (mkF m 61 #[.val (.int p0), .val (.int p1), .val (.int p2), .val (.int (p0 &&& (1073741823 : Int32))), .val (.int (p1 &&& (1073741823 : Int32))), .val (.int ((p2 &&& (2147483647 : Int32)) % (3 : Int32))), .val (.int ((p1 &&& (1073741823 : Int32)) ||| (((p2 &&& (2147483647 : Int32)) % (3 : Int32)) <<< ((30 : Int32) &&& 31)))), .val (.int (f1_0 (p0 &&& (1073741823 : Int32)) ((p1 &&& (1073741823 : Int32)) ||| (((p2 &&& (2147483647 : Int32)) % (3 : Int32)) <<< ((30 : Int32) &&& 31))))), .unset, .unset] []))
      refine own_step (fun t k => XS.iloadN X1.here hx rfl (hb hby at_61) rfl k) ?_
      show own_Ends p e below s _ _ _ (T1.setTop (mkF m 62 #[.val (.int p0), .val (.int p1), .val (.int p2), .val (.int (p0 &&& (1073741823 : Int32))), .val (.int (p1 &&& (1073741823 : Int32))), .val (.int ((p2 &&& (2147483647 : Int32)) % (3 : Int32))), .val (.int ((p1 &&& (1073741823 : Int32)) ||| (((p2 &&& (2147483647 : Int32)) % (3 : Int32)) <<< ((30 : Int32) &&& 31)))), .val (.int (f1_0 (p0 &&& (1073741823 : Int32)) ((p1 &&& (1073741823 : Int32)) ||| (((p2 &&& (2147483647 : Int32)) % (3 : Int32)) <<< ((30 : Int32) &&& 31))))), .unset, .unset] [(.int (p0 &&& (1073741823 : Int32)))]))
      refine own_step (fun t k => XS.iload X1.here hx rfl (hb hby at_62) rfl k) ?_
      show own_Ends p e below s _ _ _ (T1.setTop (mkF m 64 #[.val (.int p0), .val (.int p1), .val (.int p2), .val (.int (p0 &&& (1073741823 : Int32))), .val (.int (p1 &&& (1073741823 : Int32))), .val (.int ((p2 &&& (2147483647 : Int32)) % (3 : Int32))), .val (.int ((p1 &&& (1073741823 : Int32)) ||| (((p2 &&& (2147483647 : Int32)) % (3 : Int32)) <<< ((30 : Int32) &&& 31)))), .val (.int (f1_0 (p0 &&& (1073741823 : Int32)) ((p1 &&& (1073741823 : Int32)) ||| (((p2 &&& (2147483647 : Int32)) % (3 : Int32)) <<< ((30 : Int32) &&& 31))))), .unset, .unset] [(.int (p1 &&& (1073741823 : Int32))), (.int (p0 &&& (1073741823 : Int32)))]))
      obtain ⟨_, _, ⟨T4, L4, k4, n4⟩, -, X4, ⟨Lc4, hQ4, l4, y4, z4⟩, st4⟩ := Jvm.LawKit.callS X1 hx (y := (⟨"java/lang/Math", "min", "(II)I"⟩ : MethodName)) hown (mvT hZ (hw _ (List.mem_of_getElem? (i := 8) rfl))) (mvT hZ (hw _ (List.mem_of_getElem? (i := 9) rfl))) (mvT hZ (hw _ (List.mem_of_getElem? (i := 10) rfl))) (mvT hZ (hw _ (List.mem_of_getElem? (i := 11) rfl))) (by decide) (backOf (W := 0) (rm2 l Z a0 hw [] (p0 &&& (1073741823 : Int32)) (p1 &&& (1073741823 : Int32))  h0 n0  ) hZ (hw _ (List.mem_of_getElem? (i := 11) rfl)) (hw _ (List.mem_of_getElem? (i := 10) rfl)) (by decide) (by decide)) (g := (mkF m 64 #[.val (.int p0), .val (.int p1), .val (.int p2), .val (.int (p0 &&& (1073741823 : Int32))), .val (.int (p1 &&& (1073741823 : Int32))), .val (.int ((p2 &&& (2147483647 : Int32)) % (3 : Int32))), .val (.int ((p1 &&& (1073741823 : Int32)) ||| (((p2 &&& (2147483647 : Int32)) % (3 : Int32)) <<< ((30 : Int32) &&& 31)))), .val (.int (f1_0 (p0 &&& (1073741823 : Int32)) ((p1 &&& (1073741823 : Int32)) ||| (((p2 &&& (2147483647 : Int32)) % (3 : Int32)) <<< ((30 : Int32) &&& 31))))), .unset, .unset] [(.int (p1 &&& (1073741823 : Int32))), (.int (p0 &&& (1073741823 : Int32)))])) rfl (by rw [hml]; rfl) (argsL := [(.int (p0 &&& (1073741823 : Int32))), (.int (p1 &&& (1073741823 : Int32)))]) (rest := []) (lenOf pd0_0 rfl) rfl (by show 2 * 0 + _ ≤ _; exact Nat.le_of_eq rfl) (hb hby at_64) (fun _ _ => ⟨rfl, e1, (by decide : 0 + 0 ≤ _), (by decide : 0 + 0 ≤ _)⟩)
      dsimp only [Pt.U, Pt.locs, Pt.cells, Pt.slots] at X4 l4 y4 z4 st4 hQ4
      subst l4 y4 z4
      obtain ⟨rfl, N4q, e4⟩ := hQ4
      have N4 := Fr.app N1 N4q
      refine own_step st4 ?_
      show own_Ends p e below s _ _ _ (T4.setTop (mkF m 67 #[.val (.int p0), .val (.int p1), .val (.int p2), .val (.int (p0 &&& (1073741823 : Int32))), .val (.int (p1 &&& (1073741823 : Int32))), .val (.int ((p2 &&& (2147483647 : Int32)) % (3 : Int32))), .val (.int ((p1 &&& (1073741823 : Int32)) ||| (((p2 &&& (2147483647 : Int32)) % (3 : Int32)) <<< ((30 : Int32) &&& 31)))), .val (.int (f1_0 (p0 &&& (1073741823 : Int32)) ((p1 &&& (1073741823 : Int32)) ||| (((p2 &&& (2147483647 : Int32)) % (3 : Int32)) <<< ((30 : Int32) &&& 31))))), .unset, .unset] [(.int (f2_0 (p0 &&& (1073741823 : Int32)) (p1 &&& (1073741823 : Int32))))]))
      refine own_step (fun t k => XS.istore X4.here hx rfl (hb hby at_67) rfl (l' := #[.val (.int p0), .val (.int p1), .val (.int p2), .val (.int (p0 &&& (1073741823 : Int32))), .val (.int (p1 &&& (1073741823 : Int32))), .val (.int ((p2 &&& (2147483647 : Int32)) % (3 : Int32))), .val (.int ((p1 &&& (1073741823 : Int32)) ||| (((p2 &&& (2147483647 : Int32)) % (3 : Int32)) <<< ((30 : Int32) &&& 31)))), .val (.int (f1_0 (p0 &&& (1073741823 : Int32)) ((p1 &&& (1073741823 : Int32)) ||| (((p2 &&& (2147483647 : Int32)) % (3 : Int32)) <<< ((30 : Int32) &&& 31))))), .unset, .val (.int (f2_0 (p0 &&& (1073741823 : Int32)) (p1 &&& (1073741823 : Int32))))]) rfl k) ?_
      show own_Ends p e below s _ _ _ (T4.setTop (mkF m 69 #[.val (.int p0), .val (.int p1), .val (.int p2), .val (.int (p0 &&& (1073741823 : Int32))), .val (.int (p1 &&& (1073741823 : Int32))), .val (.int ((p2 &&& (2147483647 : Int32)) % (3 : Int32))), .val (.int ((p1 &&& (1073741823 : Int32)) ||| (((p2 &&& (2147483647 : Int32)) % (3 : Int32)) <<< ((30 : Int32) &&& 31)))), .val (.int (f1_0 (p0 &&& (1073741823 : Int32)) ((p1 &&& (1073741823 : Int32)) ||| (((p2 &&& (2147483647 : Int32)) % (3 : Int32)) <<< ((30 : Int32) &&& 31))))), .unset, .val (.int (f2_0 (p0 &&& (1073741823 : Int32)) (p1 &&& (1073741823 : Int32))))] []))
      refine own_step (fun t k => XS.iloadN X4.here hx rfl (hb hby at_69) rfl k) ?_
      show own_Ends p e below s _ _ _ (T4.setTop (mkF m 70 #[.val (.int p0), .val (.int p1), .val (.int p2), .val (.int (p0 &&& (1073741823 : Int32))), .val (.int (p1 &&& (1073741823 : Int32))), .val (.int ((p2 &&& (2147483647 : Int32)) % (3 : Int32))), .val (.int ((p1 &&& (1073741823 : Int32)) ||| (((p2 &&& (2147483647 : Int32)) % (3 : Int32)) <<< ((30 : Int32) &&& 31)))), .val (.int (f1_0 (p0 &&& (1073741823 : Int32)) ((p1 &&& (1073741823 : Int32)) ||| (((p2 &&& (2147483647 : Int32)) % (3 : Int32)) <<< ((30 : Int32) &&& 31))))), .unset, .val (.int (f2_0 (p0 &&& (1073741823 : Int32)) (p1 &&& (1073741823 : Int32))))] [(.int (p0 &&& (1073741823 : Int32)))]))
      refine own_step (fun t k => XS.iload X4.here hx rfl (hb hby at_70) rfl k) ?_
      show own_Ends p e below s _ _ _ (T4.setTop (mkF m 72 #[.val (.int p0), .val (.int p1), .val (.int p2), .val (.int (p0 &&& (1073741823 : Int32))), .val (.int (p1 &&& (1073741823 : Int32))), .val (.int ((p2 &&& (2147483647 : Int32)) % (3 : Int32))), .val (.int ((p1 &&& (1073741823 : Int32)) ||| (((p2 &&& (2147483647 : Int32)) % (3 : Int32)) <<< ((30 : Int32) &&& 31)))), .val (.int (f1_0 (p0 &&& (1073741823 : Int32)) ((p1 &&& (1073741823 : Int32)) ||| (((p2 &&& (2147483647 : Int32)) % (3 : Int32)) <<< ((30 : Int32) &&& 31))))), .unset, .val (.int (f2_0 (p0 &&& (1073741823 : Int32)) (p1 &&& (1073741823 : Int32))))] [(.int (p1 &&& (1073741823 : Int32))), (.int (p0 &&& (1073741823 : Int32)))]))
      by_cases hc72_5 : (p1 &&& (1073741823 : Int32)) < (p0 &&& (1073741823 : Int32))
      · -- (p1 &&& (1073741823 : Int32)) < (p0 &&& (1073741823 : Int32))
        refine own_step (fun t k => XS.icmpNo X4.here hx rfl (hb hby at_72) rfl (tlt hc72_5).2.2.2 k) ?_
        show own_Ends p e below s _ _ _ (T4.setTop (mkF m 75 #[.val (.int p0), .val (.int p1), .val (.int p2), .val (.int (p0 &&& (1073741823 : Int32))), .val (.int (p1 &&& (1073741823 : Int32))), .val (.int ((p2 &&& (2147483647 : Int32)) % (3 : Int32))), .val (.int ((p1 &&& (1073741823 : Int32)) ||| (((p2 &&& (2147483647 : Int32)) % (3 : Int32)) <<< ((30 : Int32) &&& 31)))), .val (.int (f1_0 (p0 &&& (1073741823 : Int32)) ((p1 &&& (1073741823 : Int32)) ||| (((p2 &&& (2147483647 : Int32)) % (3 : Int32)) <<< ((30 : Int32) &&& 31))))), .unset, .val (.int (f2_0 (p0 &&& (1073741823 : Int32)) (p1 &&& (1073741823 : Int32))))] []))
        refine own_step (fun t k => XS.iload X4.here hx rfl (hb hby at_75) rfl k) ?_
        show own_Ends p e below s _ _ _ (T4.setTop (mkF m 77 #[.val (.int p0), .val (.int p1), .val (.int p2), .val (.int (p0 &&& (1073741823 : Int32))), .val (.int (p1 &&& (1073741823 : Int32))), .val (.int ((p2 &&& (2147483647 : Int32)) % (3 : Int32))), .val (.int ((p1 &&& (1073741823 : Int32)) ||| (((p2 &&& (2147483647 : Int32)) % (3 : Int32)) <<< ((30 : Int32) &&& 31)))), .val (.int (f1_0 (p0 &&& (1073741823 : Int32)) ((p1 &&& (1073741823 : Int32)) ||| (((p2 &&& (2147483647 : Int32)) % (3 : Int32)) <<< ((30 : Int32) &&& 31))))), .unset, .val (.int (f2_0 (p0 &&& (1073741823 : Int32)) (p1 &&& (1073741823 : Int32))))] [(.int (f2_0 (p0 &&& (1073741823 : Int32)) (p1 &&& (1073741823 : Int32))))]))
        refine own_step (fun t k => X4.ldcInt hx hown (mvT hZ (hw _ (List.mem_of_getElem? (i := 13) rfl))) (g := (mkF m 77 #[.val (.int p0), .val (.int p1), .val (.int p2), .val (.int (p0 &&& (1073741823 : Int32))), .val (.int (p1 &&& (1073741823 : Int32))), .val (.int ((p2 &&& (2147483647 : Int32)) % (3 : Int32))), .val (.int ((p1 &&& (1073741823 : Int32)) ||| (((p2 &&& (2147483647 : Int32)) % (3 : Int32)) <<< ((30 : Int32) &&& 31)))), .val (.int (f1_0 (p0 &&& (1073741823 : Int32)) ((p1 &&& (1073741823 : Int32)) ||| (((p2 &&& (2147483647 : Int32)) % (3 : Int32)) <<< ((30 : Int32) &&& 31))))), .unset, .val (.int (f2_0 (p0 &&& (1073741823 : Int32)) (p1 &&& (1073741823 : Int32))))] [(.int (f2_0 (p0 &&& (1073741823 : Int32)) (p1 &&& (1073741823 : Int32))))])) rfl (hb hby at_77) t k) ?_
        show own_Ends p e below s _ _ _ (T4.setTop (mkF m 79 #[.val (.int p0), .val (.int p1), .val (.int p2), .val (.int (p0 &&& (1073741823 : Int32))), .val (.int (p1 &&& (1073741823 : Int32))), .val (.int ((p2 &&& (2147483647 : Int32)) % (3 : Int32))), .val (.int ((p1 &&& (1073741823 : Int32)) ||| (((p2 &&& (2147483647 : Int32)) % (3 : Int32)) <<< ((30 : Int32) &&& 31)))), .val (.int (f1_0 (p0 &&& (1073741823 : Int32)) ((p1 &&& (1073741823 : Int32)) ||| (((p2 &&& (2147483647 : Int32)) % (3 : Int32)) <<< ((30 : Int32) &&& 31))))), .unset, .val (.int (f2_0 (p0 &&& (1073741823 : Int32)) (p1 &&& (1073741823 : Int32))))] [(.int (1073741824 : Int32)), (.int (f2_0 (p0 &&& (1073741823 : Int32)) (p1 &&& (1073741823 : Int32))))]))
        refine own_step (fun t k => XS.ior X4.here hx rfl (hb hby at_79) rfl k) ?_
        show own_Ends p e below s _ _ _ (T4.setTop (mkF m 80 #[.val (.int p0), .val (.int p1), .val (.int p2), .val (.int (p0 &&& (1073741823 : Int32))), .val (.int (p1 &&& (1073741823 : Int32))), .val (.int ((p2 &&& (2147483647 : Int32)) % (3 : Int32))), .val (.int ((p1 &&& (1073741823 : Int32)) ||| (((p2 &&& (2147483647 : Int32)) % (3 : Int32)) <<< ((30 : Int32) &&& 31)))), .val (.int (f1_0 (p0 &&& (1073741823 : Int32)) ((p1 &&& (1073741823 : Int32)) ||| (((p2 &&& (2147483647 : Int32)) % (3 : Int32)) <<< ((30 : Int32) &&& 31))))), .unset, .val (.int (f2_0 (p0 &&& (1073741823 : Int32)) (p1 &&& (1073741823 : Int32))))] [(.int ((f2_0 (p0 &&& (1073741823 : Int32)) (p1 &&& (1073741823 : Int32))) ||| (1073741824 : Int32)))]))
        refine own_step (fun t k => XS.istore X4.here hx rfl (hb hby at_80) rfl (l' := #[.val (.int p0), .val (.int p1), .val (.int p2), .val (.int (p0 &&& (1073741823 : Int32))), .val (.int (p1 &&& (1073741823 : Int32))), .val (.int ((p2 &&& (2147483647 : Int32)) % (3 : Int32))), .val (.int ((p1 &&& (1073741823 : Int32)) ||| (((p2 &&& (2147483647 : Int32)) % (3 : Int32)) <<< ((30 : Int32) &&& 31)))), .val (.int (f1_0 (p0 &&& (1073741823 : Int32)) ((p1 &&& (1073741823 : Int32)) ||| (((p2 &&& (2147483647 : Int32)) % (3 : Int32)) <<< ((30 : Int32) &&& 31))))), .val (.int ((f2_0 (p0 &&& (1073741823 : Int32)) (p1 &&& (1073741823 : Int32))) ||| (1073741824 : Int32))), .val (.int (f2_0 (p0 &&& (1073741823 : Int32)) (p1 &&& (1073741823 : Int32))))]) rfl k) ?_
        show own_Ends p e below s _ _ _ (T4.setTop (mkF m 82 #[.val (.int p0), .val (.int p1), .val (.int p2), .val (.int (p0 &&& (1073741823 : Int32))), .val (.int (p1 &&& (1073741823 : Int32))), .val (.int ((p2 &&& (2147483647 : Int32)) % (3 : Int32))), .val (.int ((p1 &&& (1073741823 : Int32)) ||| (((p2 &&& (2147483647 : Int32)) % (3 : Int32)) <<< ((30 : Int32) &&& 31)))), .val (.int (f1_0 (p0 &&& (1073741823 : Int32)) ((p1 &&& (1073741823 : Int32)) ||| (((p2 &&& (2147483647 : Int32)) % (3 : Int32)) <<< ((30 : Int32) &&& 31))))), .val (.int ((f2_0 (p0 &&& (1073741823 : Int32)) (p1 &&& (1073741823 : Int32))) ||| (1073741824 : Int32))), .val (.int (f2_0 (p0 &&& (1073741823 : Int32)) (p1 &&& (1073741823 : Int32))))] []))
        refine own_step (fun t k => XS.goto X4.here hx rfl (pc0 := 82) (pc' := 89) rfl (hb hby at_82) (by decide) (by decide) k) ?_
        show own_Ends p e below s _ _ _ (T4.setTop (mkF m 89 #[.val (.int p0), .val (.int p1), .val (.int p2), .val (.int (p0 &&& (1073741823 : Int32))), .val (.int (p1 &&& (1073741823 : Int32))), .val (.int ((p2 &&& (2147483647 : Int32)) % (3 : Int32))), .val (.int ((p1 &&& (1073741823 : Int32)) ||| (((p2 &&& (2147483647 : Int32)) % (3 : Int32)) <<< ((30 : Int32) &&& 31)))), .val (.int (f1_0 (p0 &&& (1073741823 : Int32)) ((p1 &&& (1073741823 : Int32)) ||| (((p2 &&& (2147483647 : Int32)) % (3 : Int32)) <<< ((30 : Int32) &&& 31))))), .val (.int ((f2_0 (p0 &&& (1073741823 : Int32)) (p1 &&& (1073741823 : Int32))) ||| (1073741824 : Int32))), .val (.int (f2_0 (p0 &&& (1073741823 : Int32)) (p1 &&& (1073741823 : Int32))))] []))
        refine own_step (fun t k => XS.iload X4.here hx rfl (hb hby at_89) rfl k) ?_
        show own_Ends p e below s _ _ _ (T4.setTop (mkF m 91 #[.val (.int p0), .val (.int p1), .val (.int p2), .val (.int (p0 &&& (1073741823 : Int32))), .val (.int (p1 &&& (1073741823 : Int32))), .val (.int ((p2 &&& (2147483647 : Int32)) % (3 : Int32))), .val (.int ((p1 &&& (1073741823 : Int32)) ||| (((p2 &&& (2147483647 : Int32)) % (3 : Int32)) <<< ((30 : Int32) &&& 31)))), .val (.int (f1_0 (p0 &&& (1073741823 : Int32)) ((p1 &&& (1073741823 : Int32)) ||| (((p2 &&& (2147483647 : Int32)) % (3 : Int32)) <<< ((30 : Int32) &&& 31))))), .val (.int ((f2_0 (p0 &&& (1073741823 : Int32)) (p1 &&& (1073741823 : Int32))) ||| (1073741824 : Int32))), .val (.int (f2_0 (p0 &&& (1073741823 : Int32)) (p1 &&& (1073741823 : Int32))))] [(.int (f1_0 (p0 &&& (1073741823 : Int32)) ((p1 &&& (1073741823 : Int32)) ||| (((p2 &&& (2147483647 : Int32)) % (3 : Int32)) <<< ((30 : Int32) &&& 31)))))]))
        refine own_step (fun t k => XS.iload X4.here hx rfl (hb hby at_91) rfl k) ?_
        show own_Ends p e below s _ _ _ (T4.setTop (mkF m 93 #[.val (.int p0), .val (.int p1), .val (.int p2), .val (.int (p0 &&& (1073741823 : Int32))), .val (.int (p1 &&& (1073741823 : Int32))), .val (.int ((p2 &&& (2147483647 : Int32)) % (3 : Int32))), .val (.int ((p1 &&& (1073741823 : Int32)) ||| (((p2 &&& (2147483647 : Int32)) % (3 : Int32)) <<< ((30 : Int32) &&& 31)))), .val (.int (f1_0 (p0 &&& (1073741823 : Int32)) ((p1 &&& (1073741823 : Int32)) ||| (((p2 &&& (2147483647 : Int32)) % (3 : Int32)) <<< ((30 : Int32) &&& 31))))), .val (.int ((f2_0 (p0 &&& (1073741823 : Int32)) (p1 &&& (1073741823 : Int32))) ||| (1073741824 : Int32))), .val (.int (f2_0 (p0 &&& (1073741823 : Int32)) (p1 &&& (1073741823 : Int32))))] [(.int ((f2_0 (p0 &&& (1073741823 : Int32)) (p1 &&& (1073741823 : Int32))) ||| (1073741824 : Int32))), (.int (f1_0 (p0 &&& (1073741823 : Int32)) ((p1 &&& (1073741823 : Int32)) ||| (((p2 &&& (2147483647 : Int32)) % (3 : Int32)) <<< ((30 : Int32) &&& 31)))))]))
        refine own_step (fun t k => XS.icmpNo X4.here hx rfl (hb hby at_93) rfl (teq (own_l2 p0 p1 p2 hc39_2 hc51_3 hc72_5)).2 k) ?_
        show own_Ends p e below s _ _ _ (T4.setTop (mkF m 96 #[.val (.int p0), .val (.int p1), .val (.int p2), .val (.int (p0 &&& (1073741823 : Int32))), .val (.int (p1 &&& (1073741823 : Int32))), .val (.int ((p2 &&& (2147483647 : Int32)) % (3 : Int32))), .val (.int ((p1 &&& (1073741823 : Int32)) ||| (((p2 &&& (2147483647 : Int32)) % (3 : Int32)) <<< ((30 : Int32) &&& 31)))), .val (.int (f1_0 (p0 &&& (1073741823 : Int32)) ((p1 &&& (1073741823 : Int32)) ||| (((p2 &&& (2147483647 : Int32)) % (3 : Int32)) <<< ((30 : Int32) &&& 31))))), .val (.int ((f2_0 (p0 &&& (1073741823 : Int32)) (p1 &&& (1073741823 : Int32))) ||| (1073741824 : Int32))), .val (.int (f2_0 (p0 &&& (1073741823 : Int32)) (p1 &&& (1073741823 : Int32))))] []))
        refine own_step (fun t k => XS.iconst X4.here hx rfl (hb hby at_96) k) ?_
        show own_Ends p e below s _ _ _ (T4.setTop (mkF m 97 #[.val (.int p0), .val (.int p1), .val (.int p2), .val (.int (p0 &&& (1073741823 : Int32))), .val (.int (p1 &&& (1073741823 : Int32))), .val (.int ((p2 &&& (2147483647 : Int32)) % (3 : Int32))), .val (.int ((p1 &&& (1073741823 : Int32)) ||| (((p2 &&& (2147483647 : Int32)) % (3 : Int32)) <<< ((30 : Int32) &&& 31)))), .val (.int (f1_0 (p0 &&& (1073741823 : Int32)) ((p1 &&& (1073741823 : Int32)) ||| (((p2 &&& (2147483647 : Int32)) % (3 : Int32)) <<< ((30 : Int32) &&& 31))))), .val (.int ((f2_0 (p0 &&& (1073741823 : Int32)) (p1 &&& (1073741823 : Int32))) ||| (1073741824 : Int32))), .val (.int (f2_0 (p0 &&& (1073741823 : Int32)) (p1 &&& (1073741823 : Int32))))] [(.int (1 : Int32))]))
        refine own_step (fun t k => XS.goto X4.here hx rfl (pc0 := 97) (pc' := 101) rfl (hb hby at_97) (by decide) (by decide) k) ?_
        show own_Ends p e below s _ _ _ (T4.setTop (mkF m 101 #[.val (.int p0), .val (.int p1), .val (.int p2), .val (.int (p0 &&& (1073741823 : Int32))), .val (.int (p1 &&& (1073741823 : Int32))), .val (.int ((p2 &&& (2147483647 : Int32)) % (3 : Int32))), .val (.int ((p1 &&& (1073741823 : Int32)) ||| (((p2 &&& (2147483647 : Int32)) % (3 : Int32)) <<< ((30 : Int32) &&& 31)))), .val (.int (f1_0 (p0 &&& (1073741823 : Int32)) ((p1 &&& (1073741823 : Int32)) ||| (((p2 &&& (2147483647 : Int32)) % (3 : Int32)) <<< ((30 : Int32) &&& 31))))), .val (.int ((f2_0 (p0 &&& (1073741823 : Int32)) (p1 &&& (1073741823 : Int32))) ||| (1073741824 : Int32))), .val (.int (f2_0 (p0 &&& (1073741823 : Int32)) (p1 &&& (1073741823 : Int32))))] [(.int (1 : Int32))]))
        exact own_retN X4 hx hlk (t := .boolean) hret (by simp) (hb hby at_101) (w := (1 : Int32)) (by decide) ⟨rfl, N4⟩ (by decide) (by decide)
      · -- not (p1 &&& (1073741823 : Int32)) < (p0 &&& (1073741823 : Int32))
        refine own_step (fun t k => XS.icmpYes X4.here hx rfl (pc0 := 72) (pc' := 85) rfl (hb hby at_72) rfl (flt hc72_5).2.2.2 (by decide) (by decide) k) ?_
        show own_Ends p e below s _ _ _ (T4.setTop (mkF m 85 #[.val (.int p0), .val (.int p1), .val (.int p2), .val (.int (p0 &&& (1073741823 : Int32))), .val (.int (p1 &&& (1073741823 : Int32))), .val (.int ((p2 &&& (2147483647 : Int32)) % (3 : Int32))), .val (.int ((p1 &&& (1073741823 : Int32)) ||| (((p2 &&& (2147483647 : Int32)) % (3 : Int32)) <<< ((30 : Int32) &&& 31)))), .val (.int (f1_0 (p0 &&& (1073741823 : Int32)) ((p1 &&& (1073741823 : Int32)) ||| (((p2 &&& (2147483647 : Int32)) % (3 : Int32)) <<< ((30 : Int32) &&& 31))))), .unset, .val (.int (f2_0 (p0 &&& (1073741823 : Int32)) (p1 &&& (1073741823 : Int32))))] []))
        refine own_step (fun t k => XS.iload X4.here hx rfl (hb hby at_85) rfl k) ?_
        show own_Ends p e below s _ _ _ (T4.setTop (mkF m 87 #[.val (.int p0), .val (.int p1), .val (.int p2), .val (.int (p0 &&& (1073741823 : Int32))), .val (.int (p1 &&& (1073741823 : Int32))), .val (.int ((p2 &&& (2147483647 : Int32)) % (3 : Int32))), .val (.int ((p1 &&& (1073741823 : Int32)) ||| (((p2 &&& (2147483647 : Int32)) % (3 : Int32)) <<< ((30 : Int32) &&& 31)))), .val (.int (f1_0 (p0 &&& (1073741823 : Int32)) ((p1 &&& (1073741823 : Int32)) ||| (((p2 &&& (2147483647 : Int32)) % (3 : Int32)) <<< ((30 : Int32) &&& 31))))), .unset, .val (.int (f2_0 (p0 &&& (1073741823 : Int32)) (p1 &&& (1073741823 : Int32))))] [(.int (f2_0 (p0 &&& (1073741823 : Int32)) (p1 &&& (1073741823 : Int32))))]))
        refine own_step (fun t k => XS.istore X4.here hx rfl (hb hby at_87) rfl (l' := #[.val (.int p0), .val (.int p1), .val (.int p2), .val (.int (p0 &&& (1073741823 : Int32))), .val (.int (p1 &&& (1073741823 : Int32))), .val (.int ((p2 &&& (2147483647 : Int32)) % (3 : Int32))), .val (.int ((p1 &&& (1073741823 : Int32)) ||| (((p2 &&& (2147483647 : Int32)) % (3 : Int32)) <<< ((30 : Int32) &&& 31)))), .val (.int (f1_0 (p0 &&& (1073741823 : Int32)) ((p1 &&& (1073741823 : Int32)) ||| (((p2 &&& (2147483647 : Int32)) % (3 : Int32)) <<< ((30 : Int32) &&& 31))))), .val (.int (f2_0 (p0 &&& (1073741823 : Int32)) (p1 &&& (1073741823 : Int32)))), .val (.int (f2_0 (p0 &&& (1073741823 : Int32)) (p1 &&& (1073741823 : Int32))))]) rfl k) ?_
        show own_Ends p e below s _ _ _ (T4.setTop (mkF m 89 #[.val (.int p0), .val (.int p1), .val (.int p2), .val (.int (p0 &&& (1073741823 : Int32))), .val (.int (p1 &&& (1073741823 : Int32))), .val (.int ((p2 &&& (2147483647 : Int32)) % (3 : Int32))), .val (.int ((p1 &&& (1073741823 : Int32)) ||| (((p2 &&& (2147483647 : Int32)) % (3 : Int32)) <<< ((30 : Int32) &&& 31)))), .val (.int (f1_0 (p0 &&& (1073741823 : Int32)) ((p1 &&& (1073741823 : Int32)) ||| (((p2 &&& (2147483647 : Int32)) % (3 : Int32)) <<< ((30 : Int32) &&& 31))))), .val (.int (f2_0 (p0 &&& (1073741823 : Int32)) (p1 &&& (1073741823 : Int32)))), .val (.int (f2_0 (p0 &&& (1073741823 : Int32)) (p1 &&& (1073741823 : Int32))))] []))
        refine own_step (fun t k => XS.iload X4.here hx rfl (hb hby at_89) rfl k) ?_
        show own_Ends p e below s _ _ _ (T4.setTop (mkF m 91 #[.val (.int p0), .val (.int p1), .val (.int p2), .val (.int (p0 &&& (1073741823 : Int32))), .val (.int (p1 &&& (1073741823 : Int32))), .val (.int ((p2 &&& (2147483647 : Int32)) % (3 : Int32))), .val (.int ((p1 &&& (1073741823 : Int32)) ||| (((p2 &&& (2147483647 : Int32)) % (3 : Int32)) <<< ((30 : Int32) &&& 31)))), .val (.int (f1_0 (p0 &&& (1073741823 : Int32)) ((p1 &&& (1073741823 : Int32)) ||| (((p2 &&& (2147483647 : Int32)) % (3 : Int32)) <<< ((30 : Int32) &&& 31))))), .val (.int (f2_0 (p0 &&& (1073741823 : Int32)) (p1 &&& (1073741823 : Int32)))), .val (.int (f2_0 (p0 &&& (1073741823 : Int32)) (p1 &&& (1073741823 : Int32))))] [(.int (f1_0 (p0 &&& (1073741823 : Int32)) ((p1 &&& (1073741823 : Int32)) ||| (((p2 &&& (2147483647 : Int32)) % (3 : Int32)) <<< ((30 : Int32) &&& 31)))))]))
        refine own_step (fun t k => XS.iload X4.here hx rfl (hb hby at_91) rfl k) ?_
        show own_Ends p e below s _ _ _ (T4.setTop (mkF m 93 #[.val (.int p0), .val (.int p1), .val (.int p2), .val (.int (p0 &&& (1073741823 : Int32))), .val (.int (p1 &&& (1073741823 : Int32))), .val (.int ((p2 &&& (2147483647 : Int32)) % (3 : Int32))), .val (.int ((p1 &&& (1073741823 : Int32)) ||| (((p2 &&& (2147483647 : Int32)) % (3 : Int32)) <<< ((30 : Int32) &&& 31)))), .val (.int (f1_0 (p0 &&& (1073741823 : Int32)) ((p1 &&& (1073741823 : Int32)) ||| (((p2 &&& (2147483647 : Int32)) % (3 : Int32)) <<< ((30 : Int32) &&& 31))))), .val (.int (f2_0 (p0 &&& (1073741823 : Int32)) (p1 &&& (1073741823 : Int32)))), .val (.int (f2_0 (p0 &&& (1073741823 : Int32)) (p1 &&& (1073741823 : Int32))))] [(.int (f2_0 (p0 &&& (1073741823 : Int32)) (p1 &&& (1073741823 : Int32)))), (.int (f1_0 (p0 &&& (1073741823 : Int32)) ((p1 &&& (1073741823 : Int32)) ||| (((p2 &&& (2147483647 : Int32)) % (3 : Int32)) <<< ((30 : Int32) &&& 31)))))]))
        refine own_step (fun t k => XS.icmpNo X4.here hx rfl (hb hby at_93) rfl (teq (own_l3 p0 p1 p2 hc39_2 hc51_3 hc72_5)).2 k) ?_
        show own_Ends p e below s _ _ _ (T4.setTop (mkF m 96 #[.val (.int p0), .val (.int p1), .val (.int p2), .val (.int (p0 &&& (1073741823 : Int32))), .val (.int (p1 &&& (1073741823 : Int32))), .val (.int ((p2 &&& (2147483647 : Int32)) % (3 : Int32))), .val (.int ((p1 &&& (1073741823 : Int32)) ||| (((p2 &&& (2147483647 : Int32)) % (3 : Int32)) <<< ((30 : Int32) &&& 31)))), .val (.int (f1_0 (p0 &&& (1073741823 : Int32)) ((p1 &&& (1073741823 : Int32)) ||| (((p2 &&& (2147483647 : Int32)) % (3 : Int32)) <<< ((30 : Int32) &&& 31))))), .val (.int (f2_0 (p0 &&& (1073741823 : Int32)) (p1 &&& (1073741823 : Int32)))), .val (.int (f2_0 (p0 &&& (1073741823 : Int32)) (p1 &&& (1073741823 : Int32))))] []))
        refine own_step (fun t k => XS.iconst X4.here hx rfl (hb hby at_96) k) ?_
        show own_Ends p e below s _ _ _ (T4.setTop (mkF m 97 #[.val (.int p0), .val (.int p1), .val (.int p2), .val (.int (p0 &&& (1073741823 : Int32))), .val (.int (p1 &&& (1073741823 : Int32))), .val (.int ((p2 &&& (2147483647 : Int32)) % (3 : Int32))), .val (.int ((p1 &&& (1073741823 : Int32)) ||| (((p2 &&& (2147483647 : Int32)) % (3 : Int32)) <<< ((30 : Int32) &&& 31)))), .val (.int (f1_0 (p0 &&& (1073741823 : Int32)) ((p1 &&& (1073741823 : Int32)) ||| (((p2 &&& (2147483647 : Int32)) % (3 : Int32)) <<< ((30 : Int32) &&& 31))))), .val (.int (f2_0 (p0 &&& (1073741823 : Int32)) (p1 &&& (1073741823 : Int32)))), .val (.int (f2_0 (p0 &&& (1073741823 : Int32)) (p1 &&& (1073741823 : Int32))))] [(.int (1 : Int32))]))
        refine own_step (fun t k => XS.goto X4.here hx rfl (pc0 := 97) (pc' := 101) rfl (hb hby at_97) (by decide) (by decide) k) ?_
        show own_Ends p e below s _ _ _ (T4.setTop (mkF m 101 #[.val (.int p0), .val (.int p1), .val (.int p2), .val (.int (p0 &&& (1073741823 : Int32))), .val (.int (p1 &&& (1073741823 : Int32))), .val (.int ((p2 &&& (2147483647 : Int32)) % (3 : Int32))), .val (.int ((p1 &&& (1073741823 : Int32)) ||| (((p2 &&& (2147483647 : Int32)) % (3 : Int32)) <<< ((30 : Int32) &&& 31)))), .val (.int (f1_0 (p0 &&& (1073741823 : Int32)) ((p1 &&& (1073741823 : Int32)) ||| (((p2 &&& (2147483647 : Int32)) % (3 : Int32)) <<< ((30 : Int32) &&& 31))))), .val (.int (f2_0 (p0 &&& (1073741823 : Int32)) (p1 &&& (1073741823 : Int32)))), .val (.int (f2_0 (p0 &&& (1073741823 : Int32)) (p1 &&& (1073741823 : Int32))))] [(.int (1 : Int32))]))
        exact own_retN X4 hx hlk (t := .boolean) hret (by simp) (hb hby at_101) (w := (1 : Int32)) (by decide) ⟨rfl, N4⟩ (by decide) (by decide)
set_option maxRecDepth 65536 in
set_option maxHeartbeats 40000000 in
theorem comes_1 {Post : Tables → Env → Array Value → State → Outcome → State → Prop} (hpost : ∀ tb e args s v u, (limb_1_1.after args s (.returned v) u = true ∧ limb_1_2.after args s (.returned v) u = true ∧ True) → FrameEnd s (.returned v) u (Jvm.fieldLocs frame_1_writes args s ++ Jvm.arrayLocs frame_1_arrays args s ++ Jvm.staticLocs frame_1_statics s) 0 0 → Post tb e args s (.returned v) u) :
    ArmFor flags0 classFile x code maxLocals ret World_1 tables_1 room_1 Calls_1 rest_1 Pre_1 Post := by
  intro l hfl _ _ p e ha hc hk s m args below hf hA hF happ hP
  obtain ⟨hcalls, hrest, hpre⟩ := hP
  obtain ⟨-, -, -, hnamed, -, -, -, hat⟩ := (Spec.applies_iff hf).mp happ
  obtain ⟨hg, hn⟩ := and_e (Cond.before_iff.mp (show (Jvm.Cond.and given_1 narrow_1).before args s = true from hpre))
  obtain ⟨g0, hr0⟩ := and_e hg
  obtain ⟨g1, hr1⟩ := and_e hr0
  obtain ⟨g2, hr2⟩ := and_e hr1
  obtain ⟨w0, w1, w2, rfl⟩ : ∃ w0 w1 w2 : Value, args = #[w0, w1, w2] := by
    have hs : args.size = 3 := by simpa [Cond.value, given_1] using g0
    obtain ⟨L⟩ := args
    match L, hs with
    | [w0, w1, w2], _ => exact ⟨w0, w1, w2, rfl⟩
  have hw := fun d (hd : d ∈ tables_1) => atoms_spec (ws := Jvm.Cond.code x code maxLocals ret :: tables_1) hat d (List.mem_cons_of_mem _ hd)
  obtain ⟨i0, ei0⟩ := is_v g1
  obtain rfl : w0 = (.int i0) := Option.some.inj ei0
  obtain ⟨i1, ei1⟩ := is_v g2
  obtain rfl : w1 = (.int i1) := Option.some.inj ei1
  obtain ⟨i2, ei2⟩ := is_v hr2
  obtain rfl : w2 = (.int i2) := Option.some.inj ei2
  obtain ⟨n, o, h1, h2, h3, _, L, rfl, ⟨rfl, N⟩, hq⟩ := rm0 l s _ hw tables_1 i0 i1 i2 s.heap s.heap.size (Nat.le_refl _)  p e ha hc hk s m _ below hf ((Spec.applies_iff_loose hf).mp happ).1 ⟨rfl, State.Warmed39.refl s, rfl⟩ trivial
  refine ⟨n, _, h1, h2, h3, hpost _ _ _ _ _ _ ⟨Cond.after_iff.mpr rfl, Cond.after_iff.mpr (eq_i res_at (Term.int_eval (1)) rfl), trivial⟩ ⟨hq.1, hq.2.1, (hq.2.2.sift fun y hy => Or.inr (N y hy)).mono (by decide) (by decide)⟩⟩
theorem main_1_1 : Claimed_1_1 := comes_1 fun _ _ _ _ _ _ h hF => ⟨h.1, hF⟩
theorem main_1_2 : Claimed_1_2 := comes_1 fun _ _ _ _ _ _ h hF => ⟨h.2.1, hF⟩
end Jvm.Pilot.@@N@@
namespace Jvm.Pilot.@@N@@
open Jvm Jvm.ClassFile Sem Op Lib Jvm.Free Jvm.Stand Jvm.Pilot.@@N@@.Jvm.D
/-! MADE BY PROGRAM (witnessworld.py) out of the Statement's table words and the real class files: 10 classes; the members and pool entries that the words name. The judged class is class 1, her method 1. -/
namespace start1
open Jvm.ClassFile
def u (s : String) : CpInfo := .utf8 (stringToUtf16 s)
/-- a pool by its gaps: so many unusable entries, then the entry; so many at the end -/
def gap : Nat → List CpInfo → List CpInfo
  | 0, r => r
  | n + 1, r => .unusable :: gap n r
def poolList (es : List (Nat × CpInfo)) (last : Nat) : List CpInfo := es.foldr (fun e r => gap e.1 (e.2 :: r)) (gap last [])
def pool (es : List (Nat × CpInfo)) (last : Nat) : Array CpInfo := ⟨poolList es last⟩
def fileOf (pool : Array CpInfo) (this : Nat) (attrs : Array Attribute := #[]) (ms : Array MethodInfo := #[]) (fl : Nat := 33) (sup : Nat := 0) (ifs : Array Nat := #[]) (fds : Array FieldInfo := #[]) : ClassFile where
  minorVersion := 0
  majorVersion := 65
  constantPool := pool
  accessFlags := fl
  thisClass := this
  superClass := sup
  interfaces := ifs
  fields := fds
  methods := ms
  attributes := attrs
def plain (name : String) (sup : Option ClassId) : Class where
  name := name
  kind := .ordinary
  loader := none
  accessFlags := 33
  super := sup
  interfaces := #[]
  cf := none
  fields := #[]
  methods := #[]
  instanceTypes := #[]
  staticTypes := #[]
  resolved := #[]
  callSites := []
  init := .initialized
  statics := none
  mirror := none

def pool0 : Array CpInfo := pool [(5, u "<init>"), (0, u "()V"), (1, .class_ 10), (1, u "java/lang/Object")] 113

def k0m0 : Method := { name := "<init>", desc := "()V", sig := { parameters := [], returnType := none }, accessFlags := 1, code := none }
/-- java/lang/Object -/
def k0 : Class := { plain "java/lang/Object" none with
  accessFlags := 33
  interfaces := #[]
  cf := some (fileOf pool0 8 #[] #[{ accessFlags := 1, nameIndex := 5, descriptorIndex := 6, attributes := #[] }] 33 0 #[] #[])
  fields := #[]
  methods := #[k0m0]
  instanceTypes := #[]
  staticTypes := #[]
  resolved := Array.replicate 124 none
  statics := none }

def pool1 : Array CpInfo := pool [(2, .class_ 4), (1, u "java/lang/Object"), (0, u "<init>"), (0, u "()V"), (0, .integer 1073741823), (0, .integer 2147483647), (0, .methodref 10 11), (0, .class_ 12), (0, .nameAndType 13 14), (0, u "com/example/plumbline/plumbline/core/Node"), (0, u "resolveSize"), (0, u "(II)I"), (0, .methodref 16 17), (0, .class_ 18), (0, .nameAndType 19 14), (0, u "java/lang/Math"), (0, u "min"), (0, .integer 1073741824), (0, .class_ 22), (0, u "com/example/plumbline/plumbline/core/NodeResolveSizePinLaw"), (2, u "law"), (0, u "(III)Z")] 3

def k1m0 : Method := { name := "<init>", desc := "()V", sig := { parameters := [], returnType := none }, accessFlags := 1, code := none }
def k1c1 : Code := { maxStack := 3, maxLocals := 10, code := code, exceptionTable := #[], attributes := #[] }
def k1m1 : Method := { name := "law", desc := "(III)Z", sig := { parameters := [.int, .int, .int], returnType := some .boolean }, accessFlags := 9, code := some k1c1 }
/-- com/example/plumbline/plumbline/core/NodeResolveSizePinLaw -/
def k1 : Class := { plain "com/example/plumbline/plumbline/core/NodeResolveSizePinLaw" (some 0) with
  accessFlags := 49
  interfaces := #[]
  cf := some (fileOf pool1 21 #[] #[{ accessFlags := 1, nameIndex := 5, descriptorIndex := 6, attributes := #[] }, { accessFlags := 9, nameIndex := 25, descriptorIndex := 26, attributes := #[] }] 49 2 #[] #[])
  fields := #[]
  methods := #[k1m0, k1m1]
  instanceTypes := #[]
  staticTypes := #[]
  resolved := Array.replicate 30 none
  statics := none }

def pool2 : Array CpInfo := pool [(4, .class_ 6), (1, u "java/lang/Object"), (2, .class_ 10), (0, u "com/example/plumbline/plumbline/core/Node"), (2, u "layoutWidth"), (0, u "I"), (2, u "layoutHeight"), (5, u "Lcom/example/plumbline/plumbline/core/Insets;"), (2, u "margins"), (2, u "padding"), (5, u "Lcom/example/plumbline/plumbline/core/Visibility;"), (2, u "visibility"), (4, u "Lcom/example/plumbline/plumbline/core/ChildParams;"), (2, u "childParams"), (2, u "NO_CHILDREN"), (0, u "[Lcom/example/plumbline/plumbline/core/Node;"), (2, u "children"), (2, u "levels"), (6, u "element"), (0, u "Ljava/lang/String;"), (14, u "id"), (7, u "parent"), (0, u "Lcom/example/plumbline/plumbline/core/Container;"), (2, u "passId"), (0, u "J"), (2, u "childCount"), (6, u "depthInPass"), (6, u "passSteps"), (2, u "lastSpecs"), (48, u "measureListener"), (0, u "Lcom/example/plumbline/plumbline/core/MeasureListener;"), (21, u "measuredWidth"), (2, u "measuredHeight"), (2, u "memo"), (0, u "Lcom/example/plumbline/plumbline/core/MeasurePass$Memo;"), (20, u "width"), (3, u "height"), (16, .integer 1073741824), (2, u "left"), (2, u "top"), (11, u "(II)I"), (25, .integer 1073741823), (2, u "CHILD_MODES"), (0, u "[I"), (7, .integer 3221225472), (5, u "minWidth"), (7, u "resolveSize"), (2, u "minHeight"), (4, u "indexInParent"), (103, u "MATCH_PARENT"), (2, u "WRAP_CONTENT"), (1, u "NO_ID"), (0, u "TOO_SMALL"), (0, u "FIRST_CHILDREN")] 83

def k2c0 : Code := { maxStack := 2, maxLocals := 3, code := prog_35_method_21_code, exceptionTable := #[], attributes := #[] }
def k2m0 : Method := { name := "resolveSize", desc := "(II)I", sig := { parameters := [.int, .int], returnType := some .int }, accessFlags := 12, code := some k2c0 }
/-- com/example/plumbline/plumbline/core/Node -/
def k2 : Class := { plain "com/example/plumbline/plumbline/core/Node" (some 0) with
  accessFlags := 1057
  interfaces := #[]
  cf := some (fileOf pool2 9 #[] #[{ accessFlags := 12, nameIndex := 303, descriptorIndex := 251, attributes := #[] }] 1057 4 #[] #[{ accessFlags := 25, nameIndex := 415, descriptorIndex := 14, attributes := #[] }, { accessFlags := 25, nameIndex := 418, descriptorIndex := 14, attributes := #[] }, { accessFlags := 25, nameIndex := 420, descriptorIndex := 64, attributes := #[] }, { accessFlags := 24, nameIndex := 421, descriptorIndex := 14, attributes := #[] }, { accessFlags := 26, nameIndex := 280, descriptorIndex := 281, attributes := #[] }, { accessFlags := 26, nameIndex := 49, descriptorIndex := 50, attributes := #[] }, { accessFlags := 26, nameIndex := 422, descriptorIndex := 14, attributes := #[] }, { accessFlags := 18, nameIndex := 63, descriptorIndex := 64, attributes := #[] }, { accessFlags := 2, nameIndex := 79, descriptorIndex := 64, attributes := #[] }, { accessFlags := 2, nameIndex := 13, descriptorIndex := 14, attributes := #[] }, { accessFlags := 2, nameIndex := 17, descriptorIndex := 14, attributes := #[] }, { accessFlags := 2, nameIndex := 26, descriptorIndex := 23, attributes := #[] }, { accessFlags := 2, nameIndex := 29, descriptorIndex := 23, attributes := #[] }, { accessFlags := 2, nameIndex := 295, descriptorIndex := 14, attributes := #[] }, { accessFlags := 2, nameIndex := 306, descriptorIndex := 14, attributes := #[] }, { accessFlags := 2, nameIndex := 38, descriptorIndex := 35, attributes := #[] }, { accessFlags := 2, nameIndex := 87, descriptorIndex := 88, attributes := #[] }, { accessFlags := 2, nameIndex := 311, descriptorIndex := 14, attributes := #[] }, { accessFlags := 2, nameIndex := 46, descriptorIndex := 43, attributes := #[] }, { accessFlags := 2, nameIndex := 161, descriptorIndex := 162, attributes := #[] }, { accessFlags := 2, nameIndex := 53, descriptorIndex := 50, attributes := #[] }, { accessFlags := 2, nameIndex := 95, descriptorIndex := 14, attributes := #[] }, { accessFlags := 2, nameIndex := 56, descriptorIndex := 14, attributes := #[] }, { accessFlags := 2, nameIndex := 184, descriptorIndex := 14, attributes := #[] }, { accessFlags := 2, nameIndex := 187, descriptorIndex := 14, attributes := #[] }, { accessFlags := 2, nameIndex := 91, descriptorIndex := 92, attributes := #[] }, { accessFlags := 2, nameIndex := 112, descriptorIndex := 92, attributes := #[] }, { accessFlags := 2, nameIndex := 109, descriptorIndex := 92, attributes := #[] }, { accessFlags := 2, nameIndex := 190, descriptorIndex := 191, attributes := #[] }, { accessFlags := 2, nameIndex := 102, descriptorIndex := 14, attributes := #[] }, { accessFlags := 2, nameIndex := 236, descriptorIndex := 14, attributes := #[] }, { accessFlags := 2, nameIndex := 239, descriptorIndex := 14, attributes := #[] }, { accessFlags := 2, nameIndex := 212, descriptorIndex := 14, attributes := #[] }, { accessFlags := 2, nameIndex := 216, descriptorIndex := 14, attributes := #[] }])
  fields := #[{ name := "MATCH_PARENT", type := .int, accessFlags := 25, slot := 0, constantValue := 0 }, { name := "WRAP_CONTENT", type := .int, accessFlags := 25, slot := 1, constantValue := 0 }, { name := "NO_ID", type := (.object "java/lang/String"), accessFlags := 25, slot := 2, constantValue := 0 }, { name := "TOO_SMALL", type := .int, accessFlags := 24, slot := 3, constantValue := 0 }, { name := "CHILD_MODES", type := (.array .int), accessFlags := 26, slot := 4, constantValue := 0 }, { name := "NO_CHILDREN", type := (.array (.object "com/example/plumbline/plumbline/core/Node")), accessFlags := 26, slot := 5, constantValue := 0 }, { name := "FIRST_CHILDREN", type := .int, accessFlags := 26, slot := 6, constantValue := 0 }, { name := "element", type := (.object "java/lang/String"), accessFlags := 18, slot := 0, constantValue := 0 }, { name := "id", type := (.object "java/lang/String"), accessFlags := 2, slot := 1, constantValue := 0 }, { name := "layoutWidth", type := .int, accessFlags := 2, slot := 2, constantValue := 0 }, { name := "layoutHeight", type := .int, accessFlags := 2, slot := 3, constantValue := 0 }, { name := "margins", type := (.object "com/example/plumbline/plumbline/core/Insets"), accessFlags := 2, slot := 4, constantValue := 0 }, { name := "padding", type := (.object "com/example/plumbline/plumbline/core/Insets"), accessFlags := 2, slot := 5, constantValue := 0 }, { name := "minWidth", type := .int, accessFlags := 2, slot := 6, constantValue := 0 }, { name := "minHeight", type := .int, accessFlags := 2, slot := 7, constantValue := 0 }, { name := "visibility", type := (.object "com/example/plumbline/plumbline/core/Visibility"), accessFlags := 2, slot := 8, constantValue := 0 }, { name := "parent", type := (.object "com/example/plumbline/plumbline/core/Container"), accessFlags := 2, slot := 9, constantValue := 0 }, { name := "indexInParent", type := .int, accessFlags := 2, slot := 10, constantValue := 0 }, { name := "childParams", type := (.object "com/example/plumbline/plumbline/core/ChildParams"), accessFlags := 2, slot := 11, constantValue := 0 }, { name := "measureListener", type := (.object "com/example/plumbline/plumbline/core/MeasureListener"), accessFlags := 2, slot := 12, constantValue := 0 }, { name := "children", type := (.array (.object "com/example/plumbline/plumbline/core/Node")), accessFlags := 2, slot := 13, constantValue := 0 }, { name := "childCount", type := .int, accessFlags := 2, slot := 14, constantValue := 0 }, { name := "levels", type := .int, accessFlags := 2, slot := 15, constantValue := 0 }, { name := "measuredWidth", type := .int, accessFlags := 2, slot := 16, constantValue := 0 }, { name := "measuredHeight", type := .int, accessFlags := 2, slot := 17, constantValue := 0 }, { name := "passId", type := .long, accessFlags := 2, slot := 18, constantValue := 0 }, { name := "lastSpecs", type := .long, accessFlags := 2, slot := 19, constantValue := 0 }, { name := "passSteps", type := .long, accessFlags := 2, slot := 20, constantValue := 0 }, { name := "memo", type := (.object "com/example/plumbline/plumbline/core/MeasurePass$Memo"), accessFlags := 2, slot := 21, constantValue := 0 }, { name := "depthInPass", type := .int, accessFlags := 2, slot := 22, constantValue := 0 }, { name := "left", type := .int, accessFlags := 2, slot := 23, constantValue := 0 }, { name := "top", type := .int, accessFlags := 2, slot := 24, constantValue := 0 }, { name := "width", type := .int, accessFlags := 2, slot := 25, constantValue := 0 }, { name := "height", type := .int, accessFlags := 2, slot := 26, constantValue := 0 }]
  methods := #[k2m0]
  instanceTypes := #[(.object "java/lang/String"), (.object "java/lang/String"), .int, .int, (.object "com/example/plumbline/plumbline/core/Insets"), (.object "com/example/plumbline/plumbline/core/Insets"), .int, .int, (.object "com/example/plumbline/plumbline/core/Visibility"), (.object "com/example/plumbline/plumbline/core/Container"), .int, (.object "com/example/plumbline/plumbline/core/ChildParams"), (.object "com/example/plumbline/plumbline/core/MeasureListener"), (.array (.object "com/example/plumbline/plumbline/core/Node")), .int, .int, .int, .int, .long, .long, .long, (.object "com/example/plumbline/plumbline/core/MeasurePass$Memo"), .int, .int, .int, .int, .int]
  staticTypes := #[.int, .int, (.object "java/lang/String"), .int, (.array .int), (.array (.object "com/example/plumbline/plumbline/core/Node")), .int]
  resolved := Array.replicate 506 none
  statics := none }

def pool3 : Array CpInfo := pool [(1, .class_ 2), (0, u "java/lang/Math"), (1, .class_ 6), (1, u "java/lang/Object"), (0, u "<init>"), (0, u "()V"), (89, .class_ 100), (1, u "java/lang/Math$RandomNumberGeneratorHolder"), (71, u "negativeZeroFloatBits"), (0, u "J"), (2, u "negativeZeroDoubleBits"), (24, u "min"), (43, u "$assertionsDisabled"), (0, u "Z"), (88, u "(II)I"), (2, u "twoToTheDoubleScaleDown"), (0, u "D"), (4, u "twoToTheDoubleScaleUp"), (9, u "E"), (3, u "PI"), (2, u "TAU"), (2, u "DEGREES_TO_RADIANS"), (0, u "RADIANS_TO_DEGREES")] 94

def k3m0 : Method := { name := "<init>", desc := "()V", sig := { parameters := [], returnType := none }, accessFlags := 2, code := none }
def k3c1 : Code := { maxStack := 2, maxLocals := 2, code := jdk_29_method_69_code, exceptionTable := #[], attributes := #[] }
def k3m1 : Method := { name := "min", desc := "(II)I", sig := { parameters := [.int, .int], returnType := some .int }, accessFlags := 9, code := some k3c1 }
/-- java/lang/Math -/
def k3 : Class := { plain "java/lang/Math" (some 0) with
  accessFlags := 49
  interfaces := #[]
  cf := some (fileOf pool3 1 #[.nestMembers #[98]] #[{ accessFlags := 2, nameIndex := 7, descriptorIndex := 8, attributes := #[] }, { accessFlags := 9, nameIndex := 201, descriptorIndex := 335, attributes := #[] }] 49 4 #[] #[{ accessFlags := 25, nameIndex := 354, descriptorIndex := 339, attributes := #[] }, { accessFlags := 25, nameIndex := 358, descriptorIndex := 339, attributes := #[] }, { accessFlags := 25, nameIndex := 361, descriptorIndex := 339, attributes := #[] }, { accessFlags := 26, nameIndex := 364, descriptorIndex := 339, attributes := #[] }, { accessFlags := 26, nameIndex := 365, descriptorIndex := 339, attributes := #[] }, { accessFlags := 26, nameIndex := 172, descriptorIndex := 173, attributes := #[] }, { accessFlags := 26, nameIndex := 176, descriptorIndex := 173, attributes := #[] }, { accessFlags := 8, nameIndex := 344, descriptorIndex := 339, attributes := #[] }, { accessFlags := 8, nameIndex := 338, descriptorIndex := 339, attributes := #[] }, { accessFlags := 4120, nameIndex := 245, descriptorIndex := 246, attributes := #[] }])
  fields := #[{ name := "E", type := .double, accessFlags := 25, slot := 0, constantValue := 0 }, { name := "PI", type := .double, accessFlags := 25, slot := 1, constantValue := 0 }, { name := "TAU", type := .double, accessFlags := 25, slot := 2, constantValue := 0 }, { name := "DEGREES_TO_RADIANS", type := .double, accessFlags := 26, slot := 3, constantValue := 0 }, { name := "RADIANS_TO_DEGREES", type := .double, accessFlags := 26, slot := 4, constantValue := 0 }, { name := "negativeZeroFloatBits", type := .long, accessFlags := 26, slot := 5, constantValue := 0 }, { name := "negativeZeroDoubleBits", type := .long, accessFlags := 26, slot := 6, constantValue := 0 }, { name := "twoToTheDoubleScaleUp", type := .double, accessFlags := 8, slot := 7, constantValue := 0 }, { name := "twoToTheDoubleScaleDown", type := .double, accessFlags := 8, slot := 8, constantValue := 0 }, { name := "$assertionsDisabled", type := .boolean, accessFlags := 4120, slot := 9, constantValue := 0 }]
  methods := #[k3m0, k3m1]
  instanceTypes := #[]
  staticTypes := #[.double, .double, .double, .double, .double, .long, .long, .double, .double, .boolean]
  resolved := Array.replicate 460 none
  statics := none }

def pool4 : Array CpInfo := pool [(1, u "java/lang/Cloneable"), (0, .class_ 1), (0, u "java/lang/Object"), (0, .class_ 3)] 3

/-- java/lang/Cloneable -/
def k4 : Class := { plain "java/lang/Cloneable" (some 0) with
  accessFlags := 1537
  interfaces := #[]
  cf := some (fileOf pool4 2 #[] #[] 1537 4 #[] #[])
  fields := #[]
  methods := #[]
  instanceTypes := #[]
  staticTypes := #[]
  resolved := Array.replicate 8 none
  statics := none }

def pool5 : Array CpInfo := pool [(1, u "java/io/Serializable"), (0, .class_ 1), (0, u "java/lang/Object"), (0, .class_ 3)] 3

/-- java/io/Serializable -/
def k5 : Class := { plain "java/io/Serializable" (some 0) with
  accessFlags := 1537
  interfaces := #[]
  cf := some (fileOf pool5 2 #[] #[] 1537 4 #[] #[])
  fields := #[]
  methods := #[]
  instanceTypes := #[]
  staticTypes := #[]
  resolved := Array.replicate 8 none
  statics := none }

/-- the primitive byte -/
def k6 : Class := { plain "byte" none with kind := .primitive 'B', accessFlags := 0x411 }
/-- [B -/
def k7 : Class := { plain "[B" (some 0) with kind := .array 6 .byte, interfaces := #[4, 5], accessFlags := 1041 }

/-- the primitive int -/
def k8 : Class := { plain "int" none with kind := .primitive 'I', accessFlags := 0x411 }
/-- [I -/
def k9 : Class := { plain "[I" (some 0) with kind := .array 8 .int, interfaces := #[4, 5], accessFlags := 1041 }

def heap : Heap := #[]
def classes : Array Class := #[k0, k1, k2, k3, k4, k5, k6, k7, k8, k9]
def interned : List (Array UInt16 × Addr) := []
def slotsUsed : Nat := 0
def theMethod : MethodId := ⟨1, 1⟩
def args0 : Array Value := #[.int 5, .int 300, .int 7]
def aboutOver (below : List Frame) : State where
  vm := { classes := classes, interned := interned.toArray }
  heap := heap
  slotsUsed := slotsUsed
  threads := #[{ frames := .invoking theMethod args0 :: below }]
def below0 : List Frame := [.native { method := ⟨0, 0⟩, args := #[] }]
def about1 : State := aboutOver below0
def p0 : Program := .bare "" "" ""
def e0 : Env := launch0.env 0 0 0
theorem w_frames : about1.frames = Frame.invoking theMethod args0 :: below0 := rfl
set_option maxRecDepth 65536 in
theorem w_args : argsFit about1.vm theMethod args0 = true := by decide +kernel
set_option maxRecDepth 65536 in
theorem w_heap : heapFits about1 = true := by decide +kernel
set_option maxRecDepth 65536 in
theorem w_runnable : about1.curStatus? = some .runnable := by decide +kernel
set_option maxRecDepth 65536 in
theorem w_alone : about1.alone = true := by decide +kernel
set_option maxRecDepth 65536 in
theorem w_named : about1.methodNamed? x = some theMethod := by decide +kernel
set_option maxRecDepth 65536 in
theorem w_hears : about1.hears theMethod below0 = true := by decide +kernel
set_option maxRecDepth 65536 in
theorem w_ripe : about1.ripe theMethod args0 below0 = true := by decide +kernel
theorem w_running : about1.status = .running := rfl
set_option maxRecDepth 65536 in
theorem w_room : about1.hasRoom e0.platform room_1 = true :=
  launch0.hasRoom_least _ room_1 (by decide +kernel) (by decide +kernel) (by decide +kernel) (by decide +kernel) (by decide +kernel) (by decide +kernel)
theorem allAtoms_all (ts : List Jvm.Cond) (a : Array Jvm.Value) (st : Jvm.State) : (allAtoms ts).before a st = ts.all (fun c => c.before a st) := by
  induction ts with
  | nil => rfl
  | cons c t ih =>
    show (Jvm.Cond.and c (allAtoms t)).before a st = _
    rw [Jvm.Cond.before_and, ih, List.all_cons]
def words1 : List Jvm.Cond := Jvm.Cond.code x code maxLocals ret :: tables_1
/-- a 'code' word, met by the world's own term for the bytes: nothing is compared byte by byte -/
theorem code_word {y : MethodName} {bytes : ByteArray} {mx : Nat} {rt : Option FieldType} {a : Array Value} {s : State} {m : MethodId} {meth : Method} {c : Code} (h1 : s.methodNamed? y = some m) (h2 : s.vm.method? m = some meth) (h3 : meth.code = some c) (h4 : c.code = bytes)
    (h5 : (c.maxLocals == mx && c.exceptionTable.isEmpty && decide (c.maxStack ≤ mostOperands) && decide (meth.sig.returnType = rt) && !meth.locks && decide (parseMethodDescriptor y.desc = some meth.sig)) = true) : (Jvm.Cond.code y bytes mx rt).before a s = true := by
  simp only [Bool.and_eq_true, beq_iff_eq, Bool.not_eq_true', decide_eq_true_eq] at h5
  obtain ⟨⟨⟨⟨⟨g1, g2⟩, g3⟩, g4⟩, g5⟩, g6⟩ := h5
  simp [Cond.before, Cond.holds, Cond.value, h1, h2, h3, h4, g1, g2, g3, g4, g5, g6]
def isCode : Jvm.Cond → Bool
  | .code _ _ _ _ => true
  | _ => false
theorem all_split {L : List Jvm.Cond} {P : Jvm.Cond → Bool} (h1 : L.all (fun c => isCode c || P c) = true) (h2 : ∀ c ∈ L.filter isCode, P c = true) : L.all P = true := by
  refine List.all_eq_true.mpr fun c hc => ?_
  have h := List.all_eq_true.mp h1 c hc
  rcases Bool.eq_false_or_eq_true (isCode c) with hi | hi
  · exact h2 c (List.mem_filter.mpr ⟨hc, hi⟩)
  · simpa [hi] using h
set_option maxRecDepth 65536 in
theorem w_c0 : (Jvm.Cond.code x code maxLocals ret).before args0 about1 = true := code_word (m := ⟨1, 1⟩) (meth := k1m1) (c := k1c1) (by decide +kernel) rfl rfl rfl (by decide +kernel)
set_option maxRecDepth 65536 in
theorem w_c1 : (Jvm.Cond.code ({ cls := "com/example/plumbline/plumbline/core/Node", name := "resolveSize", desc := "(II)I" } : Jvm.MethodName) prog_35_method_21_code (3 : Nat) (Option.some Jvm.ClassFile.FieldType.int)).before args0 about1 = true := code_word (m := ⟨2, 0⟩) (meth := k2m0) (c := k2c0) (by decide +kernel) rfl rfl rfl (by decide +kernel)
set_option maxRecDepth 65536 in
theorem w_c2 : (Jvm.Cond.code ({ cls := "java/lang/Math", name := "min", desc := "(II)I" } : Jvm.MethodName) jdk_29_method_69_code (2 : Nat) (Option.some Jvm.ClassFile.FieldType.int)).before args0 about1 = true := code_word (m := ⟨3, 1⟩) (meth := k3m1) (c := k3c1) (by decide +kernel) rfl rfl rfl (by decide +kernel)
def codes1 : List Jvm.Cond := [Jvm.Cond.code x code maxLocals ret, Jvm.Cond.code ({ cls := "com/example/plumbline/plumbline/core/Node", name := "resolveSize", desc := "(II)I" } : Jvm.MethodName) prog_35_method_21_code (3 : Nat) (Option.some Jvm.ClassFile.FieldType.int), Jvm.Cond.code ({ cls := "java/lang/Math", name := "min", desc := "(II)I" } : Jvm.MethodName) jdk_29_method_69_code (2 : Nat) (Option.some Jvm.ClassFile.FieldType.int)]
set_option maxRecDepth 65536 in
theorem codes_eq : words1.filter isCode = codes1 := rfl
theorem w_codes : ∀ c ∈ words1.filter isCode, c.before args0 about1 = true := by
  rw [codes_eq]
  intro c hc
  simp only [codes1, List.mem_cons, List.not_mem_nil, or_false] at hc
  rcases hc with rfl | rfl | rfl
  · exact w_c0
  · exact w_c1
  · exact w_c2
set_option maxRecDepth 65536 in
theorem w_t1 : words1.all (fun c => isCode c || c.before args0 about1) = true := by decide +kernel
theorem w_tables : (allAtoms (Jvm.Cond.code x code maxLocals ret :: tables_1)).before args0 about1 = true := by
  rw [allAtoms_all]
  show words1.all (fun c => c.before args0 about1) = true
  refine all_split ?_ w_codes
  rw [w_t1]
set_option maxRecDepth 65536 in
theorem w_case : (Jvm.Cond.and given_1 narrow_1).before args0 about1 = true := by decide +kernel
theorem w_applies : (headSpec (Jvm.Cond.code x code maxLocals ret :: tables_1) room_1).applies x e0.platform about1 = true :=
  (Spec.applies_iff w_frames).mpr ⟨w_running, w_runnable, w_alone, w_named, w_hears, w_ripe, w_room, w_tables⟩
theorem atStart : AtStart classFile x code maxLocals ret World_1 tables_1 room_1 Calls_1 rest_1 Pre_1 launch0 p0 e0 about1 theMethod args0 below0 :=
  ⟨lists_1, trivial, launch0.admits_env _ _ _, launch0.least_env, fairChoices_fair.cas, fairChoices_fair.clock, w_frames, w_args, w_heap, w_applies, trivial, trivial, w_case⟩
end start1
theorem witness_1 : WitnessClaimed_1 := ⟨start1.p0, start1.e0, start1.about1, start1.theMethod, start1.args0, start1.below0, start1.atStart⟩
end Jvm.Pilot.@@N@@
