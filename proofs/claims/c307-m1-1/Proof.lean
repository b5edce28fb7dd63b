import JvmDerived
import JvmDerived.Pilot.@@N@@Statement
import JvmDerived.Pilot.@@N@@Code
set_option linter.unusedVariables false
set_option linter.unusedSimpArgs false
namespace Jvm.Pilot.@@N@@
open Jvm Jvm.ClassFile Sem Op Lib Jvm.Free Jvm.Stand Jvm.LawKit Jvm.RoadKit Bundle Jvm.Pilot.@@N@@.Jvm.D
section OwnKit
variable {p : Program} {l : Launch} {e : Env} {R : Room} {s : State} {m : MethodId} {args : Array Value} {below : List Frame} {meth : Method} {c : Code} {T : State} {locs : List Loc} {cells slots : Nat} {Z : State} {h h' : Heap} {a b : Addr} {kc ks : Nat} {Q : Option Value → Heap → List Loc → Prop}
/-- from U the run comes to the method's end, and Q says what is left there -/
def own_Ends (p : Program) (e : Env) (below : List Frame) (s : State) (kc ks : Nat) (Q : Option Value → Heap → List Loc → Prop) (U : State) : Prop :=
  ∃ s₂ o, Steps p.tables e below U s₂ ∧ s₂.status = .running ∧ Ended s₂ below o ∧ ∃ v L, o = .returned v ∧ Q v s₂.heap L ∧ FrameEnd s o s₂ L kc ks
theorem own_step {U U' : State} (k1 : ∀ t, Steps p.tables e below U' t → Steps p.tables e below U t) (k2 : own_Ends p e below s kc ks Q U') : own_Ends p e below s kc ks Q U := by
  obtain ⟨s₂, o, h1, r⟩ := k2
  exact ⟨s₂, o, k1 _ h1, r⟩
theorem own_cast {g g' : JFrame} (q : g = g') (k : own_Ends p e below s kc ks Q (T.setTop g')) : own_Ends p e below s kc ks Q (T.setTop g) := q ▸ k
theorem own_ret0 (X : Stand p l e R s m args below meth c T locs cells slots) (hx : p.tables.exec = Jvm.exec) (hlk : meth.locks = false) (hret : meth.sig.returnType = none) {pc : Nat} {Ls : Array Slot}
    (hd : decode c.code pc = .ok (.return_, 1)) (hq : Q none T.heap locs) (hk : cells ≤ kc) (hn : slots ≤ ks) : own_Ends p e below s kc ks Q (T.setTop (mkF m pc Ls [])) := by
  obtain ⟨fs, hr, hrun, hended, hW, hsame⟩ := X.leave (v := none) (fun _ => rfl) hlk
  exact ⟨_, _, X.returnOut hx hret hd hr, hrun, hended, _, _, rfl, hq, ⟨_, rfl⟩, hW, hsame.mono hk hn⟩
theorem own_retN (X : Stand p l e R s m args below meth c T locs cells slots) (hx : p.tables.exec = Jvm.exec) (hlk : meth.locks = false) {t : FieldType} (hret : meth.sig.returnType = some t) (ht : t = .boolean ∨ t = .byte ∨ t = .char ∨ t = .short) {pc : Nat} {Ls : Array Slot} {z : Int32} {rest : List Value}
    (hd : decode c.code pc = .ok (.ireturn, 1)) {w : Int32} (hw : nar t z = w) (hq : Q (some (.int w)) T.heap locs) (hk : cells ≤ kc) (hn : slots ≤ ks) : own_Ends p e below s kc ks Q (T.setTop (mkF m pc Ls (.int z :: rest))) := by
  subst hw
  obtain ⟨fs, hr, hrun, hended, hW, hsame⟩ := X.leave (v := some (.int (nar t z))) (fun h => by rw [hret] at h; cases h) hlk
  exact ⟨_, _, retN X hx hret ht hd hr, hrun, hended, _, _, rfl, hq, ⟨_, rfl⟩, hW, hsame.mono hk hn⟩
theorem own_retI (X : Stand p l e R s m args below meth c T locs cells slots) (hx : p.tables.exec = Jvm.exec) (hlk : meth.locks = false) (hret : meth.sig.returnType = some .int) {pc : Nat} {Ls : Array Slot} {z : Int32} {rest : List Value}
    (hd : decode c.code pc = .ok (.ireturn, 1)) (hq : Q (some (.int z)) T.heap locs) (hk : cells ≤ kc) (hn : slots ≤ ks) : own_Ends p e below s kc ks Q (T.setTop (mkF m pc Ls (.int z :: rest))) := by
  obtain ⟨fs, hr, hrun, hended, hW, hsame⟩ := X.leave (v := some (.int z)) (fun h => by rw [hret] at h; cases h) hlk
  exact ⟨_, _, retOut X hx hret rfl (Or.inl ⟨rfl, Or.inl rfl, _, rfl⟩) hd hr, hrun, hended, _, _, rfl, hq, ⟨_, rfl⟩, hW, hsame.mono hk hn⟩
theorem own_retL (X : Stand p l e R s m args below meth c T locs cells slots) (hx : p.tables.exec = Jvm.exec) (hlk : meth.locks = false) (hret : meth.sig.returnType = some .long) {pc : Nat} {Ls : Array Slot} {z : Int64} {rest : List Value}
    (hd : decode c.code pc = .ok (.lreturn, 1)) (hq : Q (some (.long z)) T.heap locs) (hk : cells ≤ kc) (hn : slots ≤ ks) : own_Ends p e below s kc ks Q (T.setTop (mkF m pc Ls (.long z :: rest))) := by
  obtain ⟨fs, hr, hrun, hended, hW, hsame⟩ := X.leave (v := some (.long z)) (fun h => by rw [hret] at h; cases h) hlk
  exact ⟨_, _, retOut X hx hret rfl (Or.inr (Or.inl ⟨rfl, rfl, _, rfl⟩)) hd hr, hrun, hended, _, _, rfl, hq, ⟨_, rfl⟩, hW, hsame.mono hk hn⟩
theorem own_retA (X : Stand p l e R s m args below meth c T locs cells slots) (hx : p.tables.exec = Jvm.exec) (hlk : meth.locks = false) {t : FieldType} (hret : meth.sig.returnType = some t) {pc : Nat} {Ls : Array Slot} {z : Addr} {rest : List Value} (ht : t.isReference = true) (hnw : narrow t (.ref z) = .ref z)
    (hd : decode c.code pc = .ok (.areturn, 1)) (hq : Q (some (.ref z)) T.heap locs) (hk : cells ≤ kc) (hn : slots ≤ ks) : own_Ends p e below s kc ks Q (T.setTop (mkF m pc Ls (.ref z :: rest))) := by
  obtain ⟨fs, hr, hrun, hended, hW, hsame⟩ := X.leave (v := some (.ref z)) (fun h => by rw [hret] at h; cases h) hlk
  exact ⟨_, _, retOut X hx hret hnw (Or.inr (Or.inr (Or.inr (Or.inr ⟨rfl, ht, rfl⟩)))) hd hr, hrun, hended, _, _, rfl, hq, ⟨_, rfl⟩, hW, hsame.mono hk hn⟩
theorem own_lrem {g : JFrame} {target : State} (X : Stand p l e R s m args below meth c T locs cells slots) (hx : p.tables.exec = Jvm.exec) (hg : g.method = m) {x y : Int64} {rest : List Value} (hd : decode c.code g.pc = .ok (.lrem, 1)) (hs : g.stack = .long y :: .long x :: rest) (hy : y ≠ 0)
    (hr : Steps p.tables e below (T.setTop { g with pc := g.pc + 1, stack := .long (x % y) :: rest }) target) : Steps p.tables e below (T.setTop g) target := by
  have q : x - x / y * y = x % y := lrem_mod x y
  exact XS.lrem X.here hx hg hd hs hy (by rw [q]; exact hr)
theorem own_pop2L {g : JFrame} {target : State} (X : Stand p l e R s m args below meth c T locs cells slots) (hx : p.tables.exec = Jvm.exec) (hg : g.method = m) {x : Int64} {rest : List Value} (hd : decode c.code g.pc = .ok (.pop2, 1)) (hs : g.stack = .long x :: rest)
    (hr : Steps p.tables e below (T.setTop { g with pc := g.pc + 1, stack := rest }) target) : Steps p.tables e below (T.setTop g) target := by
  subst hg
  jvm_step X.here [X.here.top, hx, hd, hs, Value.category]
  exact hr
theorem own_swHit {g : JFrame} {target : State} (X : Stand p l e R s m args below meth c T locs cells slots) (hx : p.tables.exec = Jvm.exec) (hg : g.method = m) {k : Int32} {rest : List Value} (hs : g.stack = .int k :: rest) {dflt : Int} {pairs : Array (Int × Int)} {len : Nat} (hd : decode c.code g.pc = .ok (.lookupswitch dflt pairs, len))
    (hsorted : (pairs.toList.zip (pairs.toList.drop 1)).all (fun (a, next) => a.1 < next.1) = true) {a off : Int} (hfind : pairs.find? (·.1 == k.toInt) = some (a, off)) {pc0 pc' : Nat} (hpc : g.pc = pc0) (ho : 0 ≤ (pc0 : Int) + off) (hp : ((pc0 : Int) + off).toNat = pc')
    (hr : Steps p.tables e below (T.setTop { g with pc := pc', stack := rest }) target) : Steps p.tables e below (T.setTop g) target := by
  subst hpc
  subst hp
  exact X.lookupswitchHit hx hg hs hd hsorted hfind ho target hr
theorem own_swMiss {g : JFrame} {target : State} (X : Stand p l e R s m args below meth c T locs cells slots) (hx : p.tables.exec = Jvm.exec) (hg : g.method = m) {k : Int32} {rest : List Value} (hs : g.stack = .int k :: rest) {dflt : Int} {pairs : Array (Int × Int)} {len : Nat} (hd : decode c.code g.pc = .ok (.lookupswitch dflt pairs, len))
    (hsorted : (pairs.toList.zip (pairs.toList.drop 1)).all (fun (a, next) => a.1 < next.1) = true) (hfind : pairs.find? (·.1 == k.toInt) = none) {pc0 pc' : Nat} (hpc : g.pc = pc0) (ho : 0 ≤ (pc0 : Int) + dflt) (hp : ((pc0 : Int) + dflt).toNat = pc')
    (hr : Steps p.tables e below (T.setTop { g with pc := pc', stack := rest }) target) : Steps p.tables e below (T.setTop g) target := by
  subst hpc
  subst hp
  exact X.lookupswitchMiss hx hg hs hd hsorted hfind ho target hr
/-! arrays, by what each place holds -/
def own_up {α : Type} (f : Nat → α) (i : Nat) (x : α) : Nat → α := fun k => if k = i then x else f k
def own_AI (Z : State) (h : Heap) (a : Addr) (ty : FieldType) (n : Nat) (f : Nat → Int32) : Prop := ∃ c : Cell, Arr Z h a c ty ∧ c.slots.size = n ∧ ∀ k, k < n → c.slots[k]? = some (.int (f k))
def own_AJ (Z : State) (h : Heap) (a : Addr) (n : Nat) (f : Nat → Int64) : Prop := ∃ c : Cell, Arr Z h a c .long ∧ c.slots.size = n ∧ ∀ k, k < n → c.slots[k]? = some (.long (f k))
theorem own_AI.lt {ty : FieldType} {n : Nat} {f : Nat → Int32} (A : own_AI Z h a ty n f) : a < h.size := by obtain ⟨c, A, -⟩ := A; exact A.lt
theorem own_AI.ext {ty : FieldType} {n : Nat} {f : Nat → Int32} (A : own_AI Z h a ty n f) (E : Ext h h') : own_AI Z h' a ty n f := by obtain ⟨c, A, r⟩ := A; exact ⟨c, A.ext E, r⟩
theorem own_AI.other {ty : FieldType} {n : Nat} {f : Nat → Int32} {sl : Nat} {v : Value} (A : own_AI Z h b ty n f) (W : Wr h h' a sl v) (q : b ≠ a) : own_AI Z h' b ty n f := by obtain ⟨c, A, r⟩ := A; exact ⟨c, A.other W q, r⟩
theorem own_AI.keep {ty : FieldType} {n : Nat} {f : Nat → Int32} {ws : List Addr} (A : own_AI Z h a ty n f) (K : Keep h h' ws) (q : a ∉ ws) : own_AI Z h' a ty n f := by obtain ⟨c, A, r⟩ := A; exact ⟨c, ⟨K.2.1 a c A.1 q, A.2⟩, r⟩
theorem own_AJ.lt {n : Nat} {f : Nat → Int64} (A : own_AJ Z h a n f) : a < h.size := by obtain ⟨c, A, -⟩ := A; exact A.lt
theorem own_AJ.ext {n : Nat} {f : Nat → Int64} (A : own_AJ Z h a n f) (E : Ext h h') : own_AJ Z h' a n f := by obtain ⟨c, A, r⟩ := A; exact ⟨c, A.ext E, r⟩
theorem own_idx {j : Int32} {i n : Nat} {cl : Cell} (hi : j.toInt = (i : Int)) (hn : i < n) (hs : cl.slots.size = n) : ¬ (j < 0 ∨ cl.slots.size ≤ j.toNatClampNeg) ∧ j.toNatClampNeg = i := by
  have e : j.toNatClampNeg = i := by
    show j.toInt.toNat = i
    omega
  refine ⟨?_, e⟩
  rw [e, hs]
  intro q
  rcases q with q | q
  · rw [Int32.lt_iff_toInt_lt, hi] at q
    have z : (0 : Int32).toInt = 0 := by decide
    omega
  · omega
theorem own_set {n : Nat} {cl : Cell} {i : Nat} {v : Value} {g : Nat → Value} (hs : cl.slots.size = n) (hn : i < n) (hf : ∀ k, k < n → cl.slots[k]? = some (g k)) : (cl.setSlot i v).slots.size = n ∧ ∀ k, k < n → (cl.setSlot i v).slots[k]? = some (if k = i then v else g k) := by
  refine ⟨by rw [sz_set]; exact hs, fun k hk => ?_⟩
  by_cases q : k = i
  · subst q; simp [Cell.setSlot, hs, hn]
  · have : (cl.setSlot i v).slots[k]? = cl.slots[k]? := Array.getElem?_setIfInBounds_ne (fun z => q z.symm)
    rw [this, hf k hk, if_neg q]
theorem own_stI (X : Stand p l e R s m args below meth c T locs cells slots) (hx : p.tables.exec = Jvm.exec) (hZ : Z.Warmed39 s.vm) (eT : T.heap = h) {n : Nat} {f : Nat → Int32} (A : own_AI Z h a .int n f) {j x : Int32} (i : Nat) (hi : j.toInt = (i : Int)) (hn : i < n) {g : JFrame} (hg : g.method = m) {rest : List Value} (hs : g.stack = .int x :: .int j :: .ref a :: rest) (hd : decode c.code g.pc = .ok (.iastore, 1)) :
    ∃ T' h', Stand p l e R s m args below meth c T' (locs ++ [⟨a, i⟩]) cells slots ∧ T'.heap = h' ∧ Wr h h' a i (.int x) ∧ own_AI Z h' a .int n (own_up f i x) ∧ ∀ target, Steps p.tables e below (T'.setTop { g with pc := g.pc + 1, stack := rest }) target → Steps p.tables e below (T.setTop g) target := by
  obtain ⟨cl, A1, A2, A3⟩ := A
  obtain ⟨q1, q2⟩ := own_idx hi hn A2
  obtain ⟨T', h', X', e', W, st⟩ := stI X hx hZ eT A1 q1 hg hs hd
  rw [q2] at X' W
  obtain ⟨r1, r2⟩ := own_set (v := .int x) A2 hn A3
  refine ⟨T', h', X', e', W, ⟨cl.setSlot i (.int x), A1.same W, r1, fun k hk => ?_⟩, st⟩
  rw [r2 k hk]
  by_cases q : k = i
  · simp [own_up, q]
  · simp [own_up, q]
theorem own_stB (X : Stand p l e R s m args below meth c T locs cells slots) (hx : p.tables.exec = Jvm.exec) (hZ : Z.Warmed39 s.vm) (eT : T.heap = h) {n : Nat} {f : Nat → Int32} (A : own_AI Z h a .byte n f) {j x : Int32} (i : Nat) (hi : j.toInt = (i : Int)) (hn : i < n) {g : JFrame} (hg : g.method = m) {rest : List Value} (hs : g.stack = .int x :: .int j :: .ref a :: rest) (hd : decode c.code g.pc = .ok (.bastore, 1)) :
    ∃ T' h', Stand p l e R s m args below meth c T' (locs ++ [⟨a, i⟩]) cells slots ∧ T'.heap = h' ∧ Wr h h' a i (.int (x.toInt8.toInt32)) ∧ own_AI Z h' a .byte n (own_up f i (x.toInt8.toInt32)) ∧ ∀ target, Steps p.tables e below (T'.setTop { g with pc := g.pc + 1, stack := rest }) target → Steps p.tables e below (T.setTop g) target := by
  obtain ⟨cl, A1, A2, A3⟩ := A
  obtain ⟨q1, q2⟩ := own_idx hi hn A2
  obtain ⟨T', h', X', e', W, st⟩ := stB X hx hZ eT A1 q1 hg hs hd
  rw [q2] at X' W
  obtain ⟨r1, r2⟩ := own_set (v := .int (x.toInt8.toInt32)) A2 hn A3
  refine ⟨T', h', X', e', W, ⟨cl.setSlot i (.int (x.toInt8.toInt32)), A1.same W, r1, fun k hk => ?_⟩, st⟩
  rw [r2 k hk]
  by_cases q : k = i
  · simp [own_up, q]
  · simp [own_up, q]
theorem own_stJ (X : Stand p l e R s m args below meth c T locs cells slots) (hx : p.tables.exec = Jvm.exec) (hZ : Z.Warmed39 s.vm) (eT : T.heap = h) {n : Nat} {f : Nat → Int64} (A : own_AJ Z h a n f) {j : Int32} {x : Int64} (i : Nat) (hi : j.toInt = (i : Int)) (hn : i < n) {g : JFrame} (hg : g.method = m) {rest : List Value} (hs : g.stack = .long x :: .int j :: .ref a :: rest) (hd : decode c.code g.pc = .ok (.lastore, 1)) :
    ∃ T' h', Stand p l e R s m args below meth c T' (locs ++ [⟨a, i⟩]) cells slots ∧ T'.heap = h' ∧ Wr h h' a i (.long x) ∧ own_AJ Z h' a n (own_up f i x) ∧ ∀ target, Steps p.tables e below (T'.setTop { g with pc := g.pc + 1, stack := rest }) target → Steps p.tables e below (T.setTop g) target := by
  obtain ⟨cl, A1, A2, A3⟩ := A
  obtain ⟨q1, q2⟩ := own_idx hi hn A2
  obtain ⟨T', h', X', e', W, st⟩ := stJ X hx hZ eT A1 q1 hg hs hd
  rw [q2] at X' W
  obtain ⟨r1, r2⟩ := own_set (v := .long x) A2 hn A3
  refine ⟨T', h', X', e', W, ⟨cl.setSlot i (.long x), A1.same W, r1, fun k hk => ?_⟩, st⟩
  rw [r2 k hk]
  by_cases q : k = i
  · simp [own_up, q]
  · simp [own_up, q]
theorem own_ldI (X : Stand p l e R s m args below meth c T locs cells slots) (hx : p.tables.exec = Jvm.exec) (hZ : Z.Warmed39 s.vm) (eT : T.heap = h) {n : Nat} {f : Nat → Int32} (A : own_AI Z h a .int n f) {j : Int32} (i : Nat) (hi : j.toInt = (i : Int)) (hn : i < n) {g : JFrame} (hg : g.method = m) {rest : List Value} (hs : g.stack = .int j :: .ref a :: rest) (hd : decode c.code g.pc = .ok (.iaload, 1)) :
    ∀ target, Steps p.tables e below (T.setTop { g with pc := g.pc + 1, stack := .int (f i) :: rest }) target → Steps p.tables e below (T.setTop g) target := by
  obtain ⟨cl, A1, A2, A3⟩ := A
  obtain ⟨q1, q2⟩ := own_idx hi hn A2
  exact X.iaload hx (j := j) (v := .int (f i)) (by rw [eT]; exact A1.1) (State.isArrayOf_alike hZ.alike A1.2.1) A1.2.2 q1 (by rw [q2]; exact A3 i hn) hg hs hd
theorem own_ldB (X : Stand p l e R s m args below meth c T locs cells slots) (hx : p.tables.exec = Jvm.exec) (hZ : Z.Warmed39 s.vm) (eT : T.heap = h) {n : Nat} {f : Nat → Int32} (A : own_AI Z h a .byte n f) {j : Int32} (i : Nat) (hi : j.toInt = (i : Int)) (hn : i < n) {g : JFrame} (hg : g.method = m) {rest : List Value} (hs : g.stack = .int j :: .ref a :: rest) (hd : decode c.code g.pc = .ok (.baload, 1)) :
    ∀ target, Steps p.tables e below (T.setTop { g with pc := g.pc + 1, stack := .int (f i) :: rest }) target → Steps p.tables e below (T.setTop g) target := by
  obtain ⟨cl, A1, A2, A3⟩ := A
  obtain ⟨q1, q2⟩ := own_idx hi hn A2
  exact X.baloadBytes hx (j := j) (v := .int (f i)) (by rw [eT]; exact A1.1) (State.isArrayOf_alike hZ.alike A1.2.1) A1.2.2 q1 (by rw [q2]; exact A3 i hn) hg hs hd
theorem own_ldJ (X : Stand p l e R s m args below meth c T locs cells slots) (hx : p.tables.exec = Jvm.exec) (hZ : Z.Warmed39 s.vm) (eT : T.heap = h) {n : Nat} {f : Nat → Int64} (A : own_AJ Z h a n f) {j : Int32} (i : Nat) (hi : j.toInt = (i : Int)) (hn : i < n) {g : JFrame} (hg : g.method = m) {rest : List Value} (hs : g.stack = .int j :: .ref a :: rest) (hd : decode c.code g.pc = .ok (.laload, 1)) :
    ∀ target, Steps p.tables e below (T.setTop { g with pc := g.pc + 1, stack := .long (f i) :: rest }) target → Steps p.tables e below (T.setTop g) target := by
  obtain ⟨cl, A1, A2, A3⟩ := A
  obtain ⟨q1, q2⟩ := own_idx hi hn A2
  exact X.laload hx (j := j) (v := .long (f i)) (by rw [eT]; exact A1.1) (State.isArrayOf_alike hZ.alike A1.2.1) A1.2.2 q1 (by rw [q2]; exact A3 i hn) hg hs hd
theorem own_lenI (X : Stand p l e R s m args below meth c T locs cells slots) (hx : p.tables.exec = Jvm.exec) (hZ : Z.Warmed39 s.vm) (eT : T.heap = h) {ty : FieldType} {n : Nat} {f : Nat → Int32} (A : own_AI Z h a ty n f) {z : Int32} (hz : n.toInt32 = z) {g : JFrame} (hg : g.method = m) {rest : List Value} (hs : g.stack = .ref a :: rest) (hd : decode c.code g.pc = .ok (.arraylength, 1)) :
    ∀ target, Steps p.tables e below (T.setTop { g with pc := g.pc + 1, stack := .int z :: rest }) target → Steps p.tables e below (T.setTop g) target := by
  obtain ⟨cl, A1, A2, A3⟩ := A
  intro t k
  refine X.arraylength hx (by rw [eT]; exact A1.1) (State.isArrayOf_alike hZ.alike A1.2.1) hg hs hd t ?_
  rw [A2, hz]; exact k
theorem own_newI (X : Stand p l e R s m args below meth c T locs cells slots) (hx : p.tables.exec = Jvm.exec) (hZ : Z.Warmed39 s.vm) {a0 : Array Value} {aty : ArrayType} (w : (Cond.arrayClass (newarray.typeOf aty)).before a0 Z = true) (eT : T.heap = h) {g : JFrame} (hg : g.method = m) (hd : decode c.code g.pc = .ok (.newarray aty, 2)) {n : Int32} {rest : List Value} (hs : g.stack = .int n :: rest)
    {N : Nat} (hn : n.toInt = (N : Int)) (hb : N * 8 ≤ 536870912) (hc : cells + 1 ≤ R.cells) (hl : slots + N ≤ R.slots) (hdv : defaultValue (newarray.typeOf aty) = .int 0) :
    ∃ T' h', Stand p l e R s m args below meth c T' locs (cells + 1) (slots + N) ∧ T'.heap = h' ∧ Ext h h' ∧ own_AI Z h' h.size (newarray.typeOf aty) N (fun _ => 0) ∧
      ∀ target, Steps p.tables e below (T'.setTop { g with pc := g.pc + 2, stack := .ref h.size :: rest }) target → Steps p.tables e below (T.setTop g) target := by
  have e1 : n.toNatClampNeg = N := by
    show n.toInt.toNat = N
    omega
  have e2 : ¬ n < 0 := by
    rw [Int32.lt_iff_toInt_lt, hn]
    have z : (0 : Int32).toInt = 0 := by decide
    omega
  obtain ⟨T', h', cA, X', e', E, A, st⟩ := newP X hx hZ w eT hg hd hs e2 (cap := N) (by omega) hb hc hl
  refine ⟨T', h', X', e', E, ⟨_, A, by rw [sz_new, e1], fun k hk => ?_⟩, st⟩
  simp [newA, e1, hk, hdv]
theorem own_newJ (X : Stand p l e R s m args below meth c T locs cells slots) (hx : p.tables.exec = Jvm.exec) (hZ : Z.Warmed39 s.vm) {a0 : Array Value} (w : (Cond.arrayClass (newarray.typeOf .long)).before a0 Z = true) (eT : T.heap = h) {g : JFrame} (hg : g.method = m) (hd : decode c.code g.pc = .ok (.newarray .long, 2)) {n : Int32} {rest : List Value} (hs : g.stack = .int n :: rest)
    {N : Nat} (hn : n.toInt = (N : Int)) (hb : N * 8 ≤ 536870912) (hc : cells + 1 ≤ R.cells) (hl : slots + N ≤ R.slots) :
    ∃ T' h', Stand p l e R s m args below meth c T' locs (cells + 1) (slots + N) ∧ T'.heap = h' ∧ Ext h h' ∧ own_AJ Z h' h.size N (fun _ => 0) ∧
      ∀ target, Steps p.tables e below (T'.setTop { g with pc := g.pc + 2, stack := .ref h.size :: rest }) target → Steps p.tables e below (T.setTop g) target := by
  have e1 : n.toNatClampNeg = N := by
    show n.toInt.toNat = N
    omega
  have e2 : ¬ n < 0 := by
    rw [Int32.lt_iff_toInt_lt, hn]
    have z : (0 : Int32).toInt = 0 := by decide
    omega
  obtain ⟨T', h', cA, X', e', E, A, st⟩ := newP X hx hZ w eT hg hd hs e2 (cap := N) (by omega) hb hc hl
  refine ⟨T', h', X', e', E, ⟨_, A, by rw [sz_new, e1], fun k hk => ?_⟩, st⟩
  simp [newA, e1, hk, defaultValue, newarray.typeOf]
end OwnKit
theorem d1_0 : decode prog_30_method_1_code 0 = .ok (.aload_n 0, 1) := by decide +kernel
theorem d1_1 : decode prog_30_method_1_code 1 = .ok (.invokespecial 3, 3) := by decide +kernel
theorem d1_4 : decode prog_30_method_1_code 4 = .ok (.aload_n 0, 1) := by decide +kernel
theorem d1_5 : decode prog_30_method_1_code 5 = .ok (.aload_n 1, 1) := by decide +kernel
theorem d1_6 : decode prog_30_method_1_code 6 = .ok (.putfield 9, 3) := by decide +kernel
theorem d1_9 : decode prog_30_method_1_code 9 = .ok (.aload_n 0, 1) := by decide +kernel
theorem d1_10 : decode prog_30_method_1_code 10 = .ok (.iload_n 2, 1) := by decide +kernel
theorem d1_11 : decode prog_30_method_1_code 11 = .ok (.putfield 15, 3) := by decide +kernel
theorem d1_14 : decode prog_30_method_1_code 14 = .ok (.return_, 1) := by decide +kernel
theorem pn_1 : plainName "com/example/weftline/weftline/runner/CompactWire$Body" = true := by first | (simp [plainName, overriddenIn]; done) | decide +kernel
theorem ef_1 (m : MethodId) (r0 : Addr) (r1 : Addr) (p2 : Int32) : entryFrame m #[(.ref r0), (.ref r1), (.int p2)] 3 = mkF m 0 #[.val (.ref r0), .val (.ref r1), .val (.int p2)] [] := by first | (simp [entryFrame, mkF, argsToLocals, Value.category]; done) | rfl
def Q1 (Z : State) (r0 : Addr) (r1 : Addr) (p2 : Int32) (h0 : Heap) (n0 : Nat) (v : Option Value) (h : Heap) (L : List Loc) : Prop := v = none ∧ Fr n0 L ∧ n0 ≤ h.size ∧ Keep h0 h [r0] ∧ Exa Z h r0 "com/example/weftline/weftline/runner/CompactWire$Body" ∧ Fld Z h r0 "com/example/weftline/weftline/runner/CompactWire$Body" "bytes" "[B" (.ref r1) ∧ Fld Z h r0 "com/example/weftline/weftline/runner/CompactWire$Body" "end" "I" (.int p2) ∧ Fld Z h r0 "com/example/weftline/weftline/runner/CompactWire$Body" "position" "I" (.int (0 : Int32))
set_option maxRecDepth 65536 in
set_option maxHeartbeats 40000000 in
theorem rm1 (l : Launch) (Z : State) (a0 : Array Value) (hw : ∀ d ∈ tables_1, d.before a0 Z = true) (ws : List Jvm.Cond) (r0 : Addr) (r1 : Addr) (p2 : Int32) (h0 : Heap) (n0 : Nat) (Z0 : n0 ≤ h0.size) (gn_r0 : n0 ≤ r0) (E_0 : Exa Z h0 r0 "com/example/weftline/weftline/runner/CompactWire$Body") (F_bytes : Fld Z h0 r0 "com/example/weftline/weftline/runner/CompactWire$Body" "bytes" "[B" .null) (F_end : Fld Z h0 r0 "com/example/weftline/weftline/runner/CompactWire$Body" "end" "I" (.int (0 : Int32))) (F_position : Fld Z h0 r0 "com/example/weftline/weftline/runner/CompactWire$Body" "position" "I" (.int (0 : Int32))) :
    MetFree l (⟨"com/example/weftline/weftline/runner/CompactWire$Body", "<init>", "([BI)V"⟩ : MethodName) (head1 (Jvm.Cond.code (⟨"com/example/weftline/weftline/runner/CompactWire$Body", "<init>", "([BI)V"⟩ : MethodName) prog_30_method_1_code 3 none :: ws) ({ frames := 1, cells := 0, slots := 0, locals := 12 } : Room)) (fun a U => a = #[(.ref r0), (.ref r1), (.int p2)] ∧ Z.Warmed39 U.vm ∧ U.heap = h0) (fun _ _ _ _ _ => True) (fun _ U o U' => ∃ v L, o = .returned v ∧ (Q1 Z r0 r1 p2 h0 n0) v U'.heap L ∧ FrameEnd U o U' L ({ frames := 1, cells := 0, slots := 0, locals := 12 } : Room).cells ({ frames := 1, cells := 0, slots := 0, locals := 12 } : Room).slots) := by
  refine MetFree.of_bodySF (plainFor_of_name pn_1) hisR ?_
  intro p e s m args below meth c s₁ Bd hml0 hP hK
  obtain ⟨rfl, hZ, hh⟩ := hP
  have hx := Bd.exec
  have hby := Bd.bytes
  have hret := Bd.returns
  have hlk := BodyLoose.notSynchronized Bd
  have hml : c.maxLocals = 3 := hml0
  have hown : s.vm.findClass "com/example/weftline/weftline/runner/CompactWire$Body" = some m.cls := findClass_of_methodNamed Bd.named
  have hnm := (name_of_methodNamed Bd.named Bd.method).1
  have X0 : Stand p l e ({ frames := 1, cells := 0, slots := 0, locals := 12 } : Room) s m #[(.ref r0), (.ref r1), (.int p2)] below meth c s₁ [] 0 0 := Stand.of_body Bd
  have e0 : s₁.heap = h0 := by rw [← hh, Bd.state]; rfl
  have N0 := Fr.nil n0
  show own_Ends p e below s ({ frames := 1, cells := 0, slots := 0, locals := 12 } : Room).cells ({ frames := 1, cells := 0, slots := 0, locals := 12 } : Room).slots (Q1 Z r0 r1 p2 h0 n0) (s₁.setTop (entryFrame m #[(.ref r0), (.ref r1), (.int p2)] 3))
  refine own_cast (ef_1 m r0 r1 p2) ?_
  have u1 := (Keep.refl h0 [r0])
  show own_Ends p e below s _ _ _ (s₁.setTop (mkF m 0 #[.val (.ref r0), .val (.ref r1), .val (.int p2)] []))
  refine own_step (fun t k => XS.aloadN X0.here hx rfl (hb hby d1_0) rfl rfl k) ?_
  show own_Ends p e below s _ _ _ (s₁.setTop (mkF m 1 #[.val (.ref r0), .val (.ref r1), .val (.int p2)] [(.ref r0)]))
  obtain ⟨T2, X2, e2, st2⟩ := initO X0 hx hZ hown (hw _ (List.mem_of_getElem? (i := 7) rfl)) (hw _ (List.mem_of_getElem? (i := 8) rfl)) (hw _ (List.mem_of_getElem? (i := 9) rfl)) e0 (g := (mkF m 1 #[.val (.ref r0), .val (.ref r1), .val (.int p2)] [(.ref r0)])) rfl (by rw [hml]; rfl) rfl (hb hby d1_1) (by decide) (W := 0) (by show 2 * 0 + _ ≤ _; exact Nat.le_of_eq rfl) (by decide)
  refine own_step st2 ?_
  show own_Ends p e below s _ _ _ (T2.setTop (mkF m 4 #[.val (.ref r0), .val (.ref r1), .val (.int p2)] []))
  refine own_step (fun t k => XS.aloadN X2.here hx rfl (hb hby d1_4) rfl rfl k) ?_
  show own_Ends p e below s _ _ _ (T2.setTop (mkF m 5 #[.val (.ref r0), .val (.ref r1), .val (.int p2)] [(.ref r0)]))
  refine own_step (fun t k => XS.aloadN X2.here hx rfl (hb hby d1_5) rfl rfl k) ?_
  show own_Ends p e below s _ _ _ (T2.setTop (mkF m 6 #[.val (.ref r0), .val (.ref r1), .val (.int p2)] [(.ref r1), (.ref r0)]))
  obtain ⟨T3, h3, X3, e3, W3, st3⟩ := putF X2 hx hZ hown (host := "") (Or.inl (hw _ (List.mem_of_getElem? (i := 10) rfl))) Via.refl e2 F_bytes E_0 (Or.inr ⟨(hw _ (List.mem_of_getElem? (i := 11) rfl)), rfl, hnm⟩) (hw _ (List.mem_of_getElem? (i := 2) rfl)) (ty := (.array .byte)) (by decide) rfl rfl (g := (mkF m 6 #[.val (.ref r0), .val (.ref r1), .val (.int p2)] [(.ref r1), (.ref r0)])) rfl rfl (hb hby d1_6)
  refine own_step st3 ?_
  have N3 := Fr.snoc X3 N0 gn_r0
  have Z3 : n0 ≤ h3.size := by rw [W3.size]; exact Z0
  have u4 := (E_0.wr W3)
  have u5 := (F_bytes.same W3)
  have u6 := (F_end.other W3 (Or.inr (slot_ne (Or.inr (hw _ (List.mem_of_getElem? (i := 13) rfl))) (Or.inr (hw _ (List.mem_of_getElem? (i := 11) rfl))) (by decide) (t := .int) (t' := (.array .byte)) (by decide) (by decide))))
  have u7 := (F_position.other W3 (Or.inr (slot_ne (Or.inl (hw _ (List.mem_of_getElem? (i := 20) rfl))) (Or.inr (hw _ (List.mem_of_getElem? (i := 11) rfl))) (by decide) (t := .int) (t' := (.array .byte)) (by decide) (by decide))))
  have u8 := (u1.wr W3 (Or.inl (List.mem_of_getElem? (i := 0) rfl)))
  show own_Ends p e below s _ _ _ (T3.setTop (mkF m 9 #[.val (.ref r0), .val (.ref r1), .val (.int p2)] []))
  refine own_step (fun t k => XS.aloadN X3.here hx rfl (hb hby d1_9) rfl rfl k) ?_
  show own_Ends p e below s _ _ _ (T3.setTop (mkF m 10 #[.val (.ref r0), .val (.ref r1), .val (.int p2)] [(.ref r0)]))
  refine own_step (fun t k => XS.iloadN X3.here hx rfl (hb hby d1_10) rfl k) ?_
  show own_Ends p e below s _ _ _ (T3.setTop (mkF m 11 #[.val (.ref r0), .val (.ref r1), .val (.int p2)] [(.int p2), (.ref r0)]))
  obtain ⟨T9, h9, X9, e9, W9, st9⟩ := putF X3 hx hZ hown (host := "") (Or.inl (hw _ (List.mem_of_getElem? (i := 12) rfl))) Via.refl e3 u6 u4 (Or.inr ⟨(hw _ (List.mem_of_getElem? (i := 13) rfl)), rfl, hnm⟩) (hw _ (List.mem_of_getElem? (i := 2) rfl)) (ty := .int) (by decide) rfl rfl (g := (mkF m 11 #[.val (.ref r0), .val (.ref r1), .val (.int p2)] [(.int p2), (.ref r0)])) rfl rfl (hb hby d1_11)
  refine own_step st9 ?_
  have N9 := Fr.snoc X9 N3 gn_r0
  have Z9 : n0 ≤ h9.size := by rw [W9.size]; exact Z3
  have u10 := (u4.wr W9)
  have u11 := (u5.other W9 (Or.inr (slot_ne (Or.inr (hw _ (List.mem_of_getElem? (i := 11) rfl))) (Or.inr (hw _ (List.mem_of_getElem? (i := 13) rfl))) (by decide) (t := (.array .byte)) (t' := .int) (by decide) (by decide))))
  have u12 := (u6.same W9)
  have u13 := (u7.other W9 (Or.inr (slot_ne (Or.inl (hw _ (List.mem_of_getElem? (i := 20) rfl))) (Or.inr (hw _ (List.mem_of_getElem? (i := 13) rfl))) (by decide) (t := .int) (t' := .int) (by decide) (by decide))))
  have u14 := (u8.wr W9 (Or.inl (List.mem_of_getElem? (i := 0) rfl)))
  show own_Ends p e below s _ _ _ (T9.setTop (mkF m 14 #[.val (.ref r0), .val (.ref r1), .val (.int p2)] []))
  exact own_ret0 X9 hx hlk hret (hb hby d1_14) (by rw [e9]; exact ⟨rfl, N9, Z9, u14, u10, u11, u12, u13⟩) (by decide) (by decide)
theorem d3_0 : decode prog_30_method_2_code 0 = .ok (.aload_n 0, 1) := by decide +kernel
theorem d3_1 : decode prog_30_method_2_code 1 = .ok (.getfield 19, 3) := by decide +kernel
theorem d3_4 : decode prog_30_method_2_code 4 = .ok (.aload_n 0, 1) := by decide +kernel
theorem d3_5 : decode prog_30_method_2_code 5 = .ok (.getfield 15, 3) := by decide +kernel
theorem d3_8 : decode prog_30_method_2_code 8 = .ok (.if_icmp .ge 7, 3) := by decide +kernel
theorem d3_11 : decode prog_30_method_2_code 11 = .ok (.iconst 1, 1) := by decide +kernel
theorem d3_12 : decode prog_30_method_2_code 12 = .ok (.goto 4, 3) := by decide +kernel
theorem d3_15 : decode prog_30_method_2_code 15 = .ok (.iconst 0, 1) := by decide +kernel
theorem d3_16 : decode prog_30_method_2_code 16 = .ok (.ireturn, 1) := by decide +kernel
theorem pn_3 : plainName "com/example/weftline/weftline/runner/CompactWire$Body" = true := by first | (simp [plainName, overriddenIn]; done) | decide +kernel
theorem ef_3 (m : MethodId) (r0 : Addr) : entryFrame m #[(.ref r0)] 1 = mkF m 0 #[.val (.ref r0)] [] := by first | (simp [entryFrame, mkF, argsToLocals, Value.category]; done) | rfl
def f3_0 (vp : Int32) (ve : Int32) : Int32 := (if vp < ve then (1 : Int32) else (0 : Int32))
def Q3 (Z : State) (r0 : Addr) (vp : Int32) (ve : Int32) (h0 : Heap) (n0 : Nat) (v : Option Value) (h : Heap) (L : List Loc) : Prop := v = some (.int (f3_0 vp ve)) ∧ Fr n0 L ∧ h = h0
set_option maxRecDepth 65536 in
set_option maxHeartbeats 40000000 in
theorem rm3 (l : Launch) (Z : State) (a0 : Array Value) (hw : ∀ d ∈ tables_1, d.before a0 Z = true) (ws : List Jvm.Cond) (r0 : Addr) (vp : Int32) (ve : Int32) (h0 : Heap) (n0 : Nat) (F_position : Fld Z h0 r0 "com/example/weftline/weftline/runner/CompactWire$Body" "position" "I" (.int vp)) (F_end : Fld Z h0 r0 "com/example/weftline/weftline/runner/CompactWire$Body" "end" "I" (.int ve)) :
    MetFree l (⟨"com/example/weftline/weftline/runner/CompactWire$Body", "more", "()Z"⟩ : MethodName) (head1 (Jvm.Cond.code (⟨"com/example/weftline/weftline/runner/CompactWire$Body", "more", "()Z"⟩ : MethodName) prog_30_method_2_code 1 (some .boolean) :: ws) ({ frames := 0, cells := 0, slots := 0, locals := 0 } : Room)) (fun a U => a = #[(.ref r0)] ∧ Z.Warmed39 U.vm ∧ U.heap = h0) (fun _ _ _ _ _ => True) (fun _ U o U' => ∃ v L, o = .returned v ∧ (Q3 Z r0 vp ve h0 n0) v U'.heap L ∧ FrameEnd U o U' L ({ frames := 0, cells := 0, slots := 0, locals := 0 } : Room).cells ({ frames := 0, cells := 0, slots := 0, locals := 0 } : Room).slots) := by
  refine MetFree.of_bodySF (plainFor_of_name pn_3) hisR ?_
  intro p e s m args below meth c s₁ Bd hml0 hP hK
  obtain ⟨rfl, hZ, hh⟩ := hP
  have hx := Bd.exec
  have hby := Bd.bytes
  have hret := Bd.returns
  have hlk := BodyLoose.notSynchronized Bd
  have hml : c.maxLocals = 1 := hml0
  have hown : s.vm.findClass "com/example/weftline/weftline/runner/CompactWire$Body" = some m.cls := findClass_of_methodNamed Bd.named
  have hnm := (name_of_methodNamed Bd.named Bd.method).1
  have X0 : Stand p l e ({ frames := 0, cells := 0, slots := 0, locals := 0 } : Room) s m #[(.ref r0)] below meth c s₁ [] 0 0 := Stand.of_body Bd
  have e0 : s₁.heap = h0 := by rw [← hh, Bd.state]; rfl
  have N0 := Fr.nil n0
  show own_Ends p e below s ({ frames := 0, cells := 0, slots := 0, locals := 0 } : Room).cells ({ frames := 0, cells := 0, slots := 0, locals := 0 } : Room).slots (Q3 Z r0 vp ve h0 n0) (s₁.setTop (entryFrame m #[(.ref r0)] 1))
  refine own_cast (ef_3 m r0) ?_
  show own_Ends p e below s _ _ _ (s₁.setTop (mkF m 0 #[.val (.ref r0)] []))
  refine own_step (fun t k => XS.aloadN X0.here hx rfl (hb hby d3_0) rfl rfl k) ?_
  show own_Ends p e below s _ _ _ (s₁.setTop (mkF m 1 #[.val (.ref r0)] [(.ref r0)]))
  obtain ⟨T1, X1, e1, st1⟩ := getF X0 hx hZ hown (host := "") (Or.inl (hw _ (List.mem_of_getElem? (i := 19) rfl))) Via.refl e0 F_position (g := (mkF m 1 #[.val (.ref r0)] [(.ref r0)])) rfl rfl (hb hby d3_1)
  refine own_step st1 ?_
  show own_Ends p e below s _ _ _ (T1.setTop (mkF m 4 #[.val (.ref r0)] [(.int vp)]))
  refine own_step (fun t k => XS.aloadN X1.here hx rfl (hb hby d3_4) rfl rfl k) ?_
  show own_Ends p e below s _ _ _ (T1.setTop (mkF m 5 #[.val (.ref r0)] [(.ref r0), (.int vp)]))
  obtain ⟨T2, X2, e2, st2⟩ := getF X1 hx hZ hown (host := "") (Or.inl (hw _ (List.mem_of_getElem? (i := 12) rfl))) Via.refl e1 F_end (g := (mkF m 5 #[.val (.ref r0)] [(.ref r0), (.int vp)])) rfl rfl (hb hby d3_5)
  refine own_step st2 ?_
  show own_Ends p e below s _ _ _ (T2.setTop (mkF m 8 #[.val (.ref r0)] [(.int ve), (.int vp)]))
  by_cases hc8_3 : vp < ve
  · -- vp < ve
    refine own_step (fun t k => XS.icmpNo X2.here hx rfl (hb hby d3_8) rfl (tlt hc8_3).2.1 k) ?_
    show own_Ends p e below s _ _ _ (T2.setTop (mkF m 11 #[.val (.ref r0)] []))
    refine own_step (fun t k => XS.iconst X2.here hx rfl (hb hby d3_11) k) ?_
    show own_Ends p e below s _ _ _ (T2.setTop (mkF m 12 #[.val (.ref r0)] [(.int (1 : Int32))]))
    refine own_step (fun t k => XS.goto X2.here hx rfl (pc0 := 12) (pc' := 16) rfl (hb hby d3_12) (by decide) (by decide) k) ?_
    show own_Ends p e below s _ _ _ (T2.setTop (mkF m 16 #[.val (.ref r0)] [(.int (1 : Int32))]))
    exact own_retN X2 hx hlk (t := .boolean) hret (by simp) (hb hby d3_16) (w := (1 : Int32)) (by decide) ⟨congrArg (fun w => some (Value.int w)) (Eq.symm ((show f3_0 vp ve = _ from rfl).trans (if_pos hc8_3))), N0, e2⟩ (by decide) (by decide)
  · -- not vp < ve
    refine own_step (fun t k => XS.icmpYes X2.here hx rfl (pc0 := 8) (pc' := 15) rfl (hb hby d3_8) rfl (flt hc8_3).2.1 (by decide) (by decide) k) ?_
    show own_Ends p e below s _ _ _ (T2.setTop (mkF m 15 #[.val (.ref r0)] []))
    refine own_step (fun t k => XS.iconst X2.here hx rfl (hb hby d3_15) k) ?_
    show own_Ends p e below s _ _ _ (T2.setTop (mkF m 16 #[.val (.ref r0)] [(.int (0 : Int32))]))
    exact own_retN X2 hx hlk (t := .boolean) hret (by simp) (hb hby d3_16) (w := (0 : Int32)) (by decide) ⟨congrArg (fun w => some (Value.int w)) (Eq.symm ((show f3_0 vp ve = _ from rfl).trans (if_neg hc8_3))), N0, e2⟩ (by decide) (by decide)
def own_acc (f : Nat → Int32) (P : Nat) : Nat → Int64
  | 0 => 0
  | i + 1 => own_acc f P i ||| (((f (P + i) &&& (255 : Int32)) &&& (127 : Int32)).toInt64 <<< (Int32.ofNat (7 * i) &&& 0x3f).toInt64)
theorem own_shI {i : Nat} (h : i ≤ 20) : (Int32.ofNat (7 * i)).toInt = ((7 * i : Nat) : Int) := Int32.toInt_ofNat_of_lt (by omega)
theorem own_sh64 {i : Nat} (h : i ≤ 9) : (Int32.ofNat (7 * i)) < (64 : Int32) := by
  have e := own_shI (i := i) (by omega)
  rw [Int32.lt_iff_toInt_lt, e]
  have z : (64 : Int32).toInt = 64 := by decide
  omega
theorem own_is9 {i : Nat} (h : i ≤ 9) (q : (Int32.ofNat (7 * i)) = (63 : Int32)) : i = 9 := by
  have e := own_shI (i := i) (by omega)
  rw [q] at e
  have z : (63 : Int32).toInt = 63 := by decide
  omega
theorem own_shS {i : Nat} (h : i ≤ 9) : Int32.ofNat (7 * i) + (7 : Int32) = Int32.ofNat (7 * (i + 1)) := by
  apply Int32.toInt_inj.mp
  have e := own_shI (i := i) (by omega)
  have e' := own_shI (i := i + 1) (by omega)
  have a := c_iadd (Int32.ofNat (7 * i)) 7
  have r := rng32 (Int32.ofNat (7 * i) + 7)
  have z : (7 : Int32).toInt = 7 := by decide
  omega
theorem own_w1 {w : Int32} {n : Nat} (h : w.toInt = (n : Int)) (hn : n < 1000) : (w + (1 : Int32)).toInt = ((n + 1 : Nat) : Int) := by
  have a := c_iadd w 1
  have r := rng32 (w + 1)
  have z : (1 : Int32).toInt = 1 := by decide
  omega
theorem osV {r : Addr} {q : Int64} {z v : Int32} {s4 : Slot} (h : One s4) : storeLocals #[.val (.ref r), .val (.long q), .second, .val (.int z), s4] 4 (.int v) = some #[.val (.ref r), .val (.long q), .second, .val (.int z), .val (.int v)] := by
  rcases h with rfl | ⟨w, rfl, hw⟩
  · rfl
  · cases w <;> first | rfl | (simp [Value.category] at hw)
theorem d7_0 : decode prog_30_method_3_code 0 = .ok (.lconst 0, 1) := by decide +kernel
theorem d7_1 : decode prog_30_method_3_code 1 = .ok (.lstore_n 1, 1) := by decide +kernel
theorem d7_2 : decode prog_30_method_3_code 2 = .ok (.iconst 0, 1) := by decide +kernel
theorem d7_3 : decode prog_30_method_3_code 3 = .ok (.istore_n 3, 1) := by decide +kernel
theorem d7_4 : decode prog_30_method_3_code 4 = .ok (.iload_n 3, 1) := by decide +kernel
theorem d7_5 : decode prog_30_method_3_code 5 = .ok (.bipush 64, 2) := by decide +kernel
theorem d7_7 : decode prog_30_method_3_code 7 = .ok (.if_icmp .ge 89, 3) := by decide +kernel
theorem d7_10 : decode prog_30_method_3_code 10 = .ok (.aload_n 0, 1) := by decide +kernel
theorem d7_11 : decode prog_30_method_3_code 11 = .ok (.getfield 19, 3) := by decide +kernel
theorem d7_14 : decode prog_30_method_3_code 14 = .ok (.aload_n 0, 1) := by decide +kernel
theorem d7_15 : decode prog_30_method_3_code 15 = .ok (.getfield 15, 3) := by decide +kernel
theorem d7_18 : decode prog_30_method_3_code 18 = .ok (.if_icmp .ne 13, 3) := by decide +kernel
theorem d7_21 : decode prog_30_method_3_code 21 = .ok (.new 22, 3) := by decide +kernel
theorem d7_24 : decode prog_30_method_3_code 24 = .ok (.dup, 1) := by decide +kernel
theorem d7_25 : decode prog_30_method_3_code 25 = .ok (.ldc 24, 2) := by decide +kernel
theorem d7_27 : decode prog_30_method_3_code 27 = .ok (.invokespecial 26, 3) := by decide +kernel
theorem d7_30 : decode prog_30_method_3_code 30 = .ok (.athrow, 1) := by decide +kernel
theorem d7_31 : decode prog_30_method_3_code 31 = .ok (.aload_n 0, 1) := by decide +kernel
theorem d7_32 : decode prog_30_method_3_code 32 = .ok (.getfield 9, 3) := by decide +kernel
theorem d7_35 : decode prog_30_method_3_code 35 = .ok (.aload_n 0, 1) := by decide +kernel
theorem d7_36 : decode prog_30_method_3_code 36 = .ok (.dup, 1) := by decide +kernel
theorem d7_37 : decode prog_30_method_3_code 37 = .ok (.getfield 19, 3) := by decide +kernel
theorem d7_40 : decode prog_30_method_3_code 40 = .ok (.dup_x1, 1) := by decide +kernel
theorem d7_41 : decode prog_30_method_3_code 41 = .ok (.iconst 1, 1) := by decide +kernel
theorem d7_42 : decode prog_30_method_3_code 42 = .ok (.iadd, 1) := by decide +kernel
theorem d7_43 : decode prog_30_method_3_code 43 = .ok (.putfield 19, 3) := by decide +kernel
theorem d7_46 : decode prog_30_method_3_code 46 = .ok (.baload, 1) := by decide +kernel
theorem d7_47 : decode prog_30_method_3_code 47 = .ok (.sipush 255, 3) := by decide +kernel
theorem d7_50 : decode prog_30_method_3_code 50 = .ok (.iand, 1) := by decide +kernel
theorem d7_51 : decode prog_30_method_3_code 51 = .ok (.istore 4, 2) := by decide +kernel
theorem d7_53 : decode prog_30_method_3_code 53 = .ok (.iload_n 3, 1) := by decide +kernel
theorem d7_54 : decode prog_30_method_3_code 54 = .ok (.bipush 63, 2) := by decide +kernel
theorem d7_56 : decode prog_30_method_3_code 56 = .ok (.if_icmp .ne 12, 3) := by decide +kernel
theorem d7_59 : decode prog_30_method_3_code 59 = .ok (.iload 4, 2) := by decide +kernel
theorem d7_61 : decode prog_30_method_3_code 61 = .ok (.iconst 1, 1) := by decide +kernel
theorem d7_62 : decode prog_30_method_3_code 62 = .ok (.if_icmp .le 6, 3) := by decide +kernel
theorem d7_65 : decode prog_30_method_3_code 65 = .ok (.goto 31, 3) := by decide +kernel
theorem d7_68 : decode prog_30_method_3_code 68 = .ok (.lload_n 1, 1) := by decide +kernel
theorem d7_69 : decode prog_30_method_3_code 69 = .ok (.iload 4, 2) := by decide +kernel
theorem d7_71 : decode prog_30_method_3_code 71 = .ok (.bipush 127, 2) := by decide +kernel
theorem d7_73 : decode prog_30_method_3_code 73 = .ok (.iand, 1) := by decide +kernel
theorem d7_74 : decode prog_30_method_3_code 74 = .ok (.i2l, 1) := by decide +kernel
theorem d7_75 : decode prog_30_method_3_code 75 = .ok (.iload_n 3, 1) := by decide +kernel
theorem d7_76 : decode prog_30_method_3_code 76 = .ok (.lshl, 1) := by decide +kernel
theorem d7_77 : decode prog_30_method_3_code 77 = .ok (.lor, 1) := by decide +kernel
theorem d7_78 : decode prog_30_method_3_code 78 = .ok (.lstore_n 1, 1) := by decide +kernel
theorem d7_79 : decode prog_30_method_3_code 79 = .ok (.iload 4, 2) := by decide +kernel
theorem d7_81 : decode prog_30_method_3_code 81 = .ok (.sipush 128, 3) := by decide +kernel
theorem d7_84 : decode prog_30_method_3_code 84 = .ok (.iand, 1) := by decide +kernel
theorem d7_85 : decode prog_30_method_3_code 85 = .ok (.ifCond .ne 5, 3) := by decide +kernel
theorem d7_88 : decode prog_30_method_3_code 88 = .ok (.lload_n 1, 1) := by decide +kernel
theorem d7_89 : decode prog_30_method_3_code 89 = .ok (.lreturn, 1) := by decide +kernel
theorem d7_90 : decode prog_30_method_3_code 90 = .ok (.iinc 3 7, 3) := by decide +kernel
theorem d7_93 : decode prog_30_method_3_code 93 = .ok (.goto (-89), 3) := by decide +kernel
theorem d7_96 : decode prog_30_method_3_code 96 = .ok (.new 22, 3) := by decide +kernel
theorem d7_99 : decode prog_30_method_3_code 99 = .ok (.dup, 1) := by decide +kernel
theorem d7_100 : decode prog_30_method_3_code 100 = .ok (.ldc 29, 2) := by decide +kernel
theorem d7_102 : decode prog_30_method_3_code 102 = .ok (.invokespecial 26, 3) := by decide +kernel
theorem d7_105 : decode prog_30_method_3_code 105 = .ok (.athrow, 1) := by decide +kernel
theorem pn_7 : plainName "com/example/weftline/weftline/runner/CompactWire$Body" = true := by first | (simp [plainName, overriddenIn]; done) | decide +kernel
theorem ef_7 (m : MethodId) (r0 : Addr) : entryFrame m #[(.ref r0)] 5 = mkF m 0 #[.val (.ref r0), .unset, .unset, .unset, .unset] [] := by first | (simp [entryFrame, mkF, argsToLocals, Value.category]; done) | rfl
def Q7 (Z : State) (r0 rb : Addr) (en : Int32) (f : Nat → Int32) (P j : Nat) (h0 : Heap) (n0 : Nat) (v : Option Value) (h : Heap) (L : List Loc) : Prop := v = some (.long (own_acc f P (j + 1))) ∧ Fr n0 L ∧ n0 ≤ h.size ∧ Keep h0 h [r0] ∧ Exa Z h r0 "com/example/weftline/weftline/runner/CompactWire$Body" ∧ Fld Z h r0 "com/example/weftline/weftline/runner/CompactWire$Body" "bytes" "[B" (.ref rb) ∧ Fld Z h r0 "com/example/weftline/weftline/runner/CompactWire$Body" "end" "I" (.int en) ∧ ∃ w : Int32, w.toInt = ((P + j + 1 : Nat) : Int) ∧ Fld Z h r0 "com/example/weftline/weftline/runner/CompactWire$Body" "position" "I" (.int w)
set_option maxRecDepth 65536 in
set_option maxHeartbeats 40000000 in
theorem loopV {p : Program} {l : Launch} {e : Env} {s : State} {m : MethodId} {args : Array Value} {below : List Frame} {meth : Method} {c : Code} {Z : State} {a0 : Array Value} {h0 : Heap} {n0 : Nat} (r0 rb : Addr) (en : Int32) (nb : Nat) (f : Nat → Int32) (P j : Nat)
    (hx : p.tables.exec = Jvm.exec) (hZ : Z.Warmed39 s.vm) (hw : ∀ d ∈ tables_1, d.before a0 Z = true) (hby : c.code = prog_30_method_3_code) (hml : c.maxLocals = 5) (hown : s.vm.findClass "com/example/weftline/weftline/runner/CompactWire$Body" = some m.cls) (hret : meth.sig.returnType = some .long) (hlk : meth.locks = false) (gn_r0 : n0 ≤ r0) (ne_rb_r0 : rb ≠ r0) (hj : j ≤ 9) (hlen : P + j < nb) (hnb : nb ≤ 900) (hmore : ∀ i, i < j → ¬ (((f (P + i)) &&& (255 : Int32)) &&& (128 : Int32)) = (0 : Int32)) (hlast : (((f (P + j)) &&& (255 : Int32)) &&& (128 : Int32)) = (0 : Int32)) (hnine : j = 9 → ¬ ((1 : Int32) < ((f (P + 9)) &&& (255 : Int32)))) (hend : ∀ i, i ≤ j → ((P + i : Nat) : Int) ≠ en.toInt) :
    ∀ (k i : Nat) (hik : i + k = j) (T : State) (locs : List Loc) (hh : Heap) (w : Int32) (s4 : Slot) (hs4 : One s4) (hwi : w.toInt = ((P + i : Nat) : Int)) (X0 : Stand p l e ({ frames := 0, cells := 0, slots := 0, locals := 0 } : Room) s m args below meth c T locs 0 0) (e0 : T.heap = hh) (N0 : Fr n0 locs) (Z0 : n0 ≤ hh.size) (K_0 : Keep h0 hh [r0]) (E_0 : Exa Z hh r0 "com/example/weftline/weftline/runner/CompactWire$Body") (F_bytes : Fld Z hh r0 "com/example/weftline/weftline/runner/CompactWire$Body" "bytes" "[B" (.ref rb)) (F_end : Fld Z hh r0 "com/example/weftline/weftline/runner/CompactWire$Body" "end" "I" (.int en)) (F_position : Fld Z hh r0 "com/example/weftline/weftline/runner/CompactWire$Body" "position" "I" (.int w)) (A_0 : own_AI Z hh rb .byte nb f),
      own_Ends p e below s ({ frames := 0, cells := 0, slots := 0, locals := 0 } : Room).cells ({ frames := 0, cells := 0, slots := 0, locals := 0 } : Room).slots (Q7 Z r0 rb en f P j h0 n0) (T.setTop (mkF m 4 #[.val (.ref r0), .val (.long (own_acc f P i)), .second, .val (.int (Int32.ofNat (7 * i))), s4] [])) := by
  intro k
  induction k with
  | zero =>
    intro i hik T locs hh w s4 hs4 hwi X0 e0 N0 Z0 K_0 E_0 F_bytes F_end F_position A_0
    have hi9 : i ≤ 9 := by omega
    have hlt : P + i < nb := by omega
    have hne : ¬ w = en := fun q => hend i (by omega) (hwi.symm.trans (congrArg Int32.toInt q))
    have hij : i = j := by omega
    have hbit : (((f (P + i)) &&& (255 : Int32)) &&& (128 : Int32)) = (0 : Int32) := by rw [hij]; exact hlast
    have hn9 : i = 9 → ¬ ((1 : Int32) < ((f (P + i)) &&& (255 : Int32))) := fun q => by rw [q]; exact hnine (by omega)
    show own_Ends p e below s _ _ _ (T.setTop (mkF m 4 #[.val (.ref r0), .val (.long (own_acc f P i)), .second, .val (.int (Int32.ofNat (7 * i))), s4] []))
    refine own_step (fun t k => XS.iloadN X0.here hx rfl (hb hby d7_4) rfl k) ?_
    show own_Ends p e below s _ _ _ (T.setTop (mkF m 5 #[.val (.ref r0), .val (.long (own_acc f P i)), .second, .val (.int (Int32.ofNat (7 * i))), s4] [(.int (Int32.ofNat (7 * i)))]))
    refine own_step (fun t k => XS.bipush X0.here hx rfl (hb hby d7_5) k) ?_
    show own_Ends p e below s _ _ _ (T.setTop (mkF m 7 #[.val (.ref r0), .val (.long (own_acc f P i)), .second, .val (.int (Int32.ofNat (7 * i))), s4] [(.int (64 : Int32)), (.int (Int32.ofNat (7 * i)))]))
    refine own_step (fun t k => XS.icmpNo X0.here hx rfl (hb hby d7_7) rfl (tlt (own_sh64 hi9)).2.1 k) ?_
    show own_Ends p e below s _ _ _ (T.setTop (mkF m 10 #[.val (.ref r0), .val (.long (own_acc f P i)), .second, .val (.int (Int32.ofNat (7 * i))), s4] []))
    refine own_step (fun t k => XS.aloadN X0.here hx rfl (hb hby d7_10) rfl rfl k) ?_
    show own_Ends p e below s _ _ _ (T.setTop (mkF m 11 #[.val (.ref r0), .val (.long (own_acc f P i)), .second, .val (.int (Int32.ofNat (7 * i))), s4] [(.ref r0)]))
    obtain ⟨T1, X1, e1, st1⟩ := getF X0 hx hZ hown (host := "") (Or.inl (hw _ (List.mem_of_getElem? (i := 19) rfl))) Via.refl e0 F_position (g := (mkF m 11 #[.val (.ref r0), .val (.long (own_acc f P i)), .second, .val (.int (Int32.ofNat (7 * i))), s4] [(.ref r0)])) rfl rfl (hb hby d7_11)
    refine own_step st1 ?_
    show own_Ends p e below s _ _ _ (T1.setTop (mkF m 14 #[.val (.ref r0), .val (.long (own_acc f P i)), .second, .val (.int (Int32.ofNat (7 * i))), s4] [(.int w)]))
    refine own_step (fun t k => XS.aloadN X1.here hx rfl (hb hby d7_14) rfl rfl k) ?_
    show own_Ends p e below s _ _ _ (T1.setTop (mkF m 15 #[.val (.ref r0), .val (.long (own_acc f P i)), .second, .val (.int (Int32.ofNat (7 * i))), s4] [(.ref r0), (.int w)]))
    obtain ⟨T2, X2, e2, st2⟩ := getF X1 hx hZ hown (host := "") (Or.inl (hw _ (List.mem_of_getElem? (i := 12) rfl))) Via.refl e1 F_end (g := (mkF m 15 #[.val (.ref r0), .val (.long (own_acc f P i)), .second, .val (.int (Int32.ofNat (7 * i))), s4] [(.ref r0), (.int w)])) rfl rfl (hb hby d7_15)
    refine own_step st2 ?_
    show own_Ends p e below s _ _ _ (T2.setTop (mkF m 18 #[.val (.ref r0), .val (.long (own_acc f P i)), .second, .val (.int (Int32.ofNat (7 * i))), s4] [(.int en), (.int w)]))
    refine own_step (fun t k => XS.icmpYes X2.here hx rfl (pc0 := 18) (pc' := 31) rfl (hb hby d7_18) rfl (feq hne).2 (by decide) (by decide) k) ?_
    show own_Ends p e below s _ _ _ (T2.setTop (mkF m 31 #[.val (.ref r0), .val (.long (own_acc f P i)), .second, .val (.int (Int32.ofNat (7 * i))), s4] []))
    refine own_step (fun t k => XS.aloadN X2.here hx rfl (hb hby d7_31) rfl rfl k) ?_
    show own_Ends p e below s _ _ _ (T2.setTop (mkF m 32 #[.val (.ref r0), .val (.long (own_acc f P i)), .second, .val (.int (Int32.ofNat (7 * i))), s4] [(.ref r0)]))
    obtain ⟨T3, X3, e3, st3⟩ := getF X2 hx hZ hown (host := "") (Or.inl (hw _ (List.mem_of_getElem? (i := 10) rfl))) Via.refl e2 F_bytes (g := (mkF m 32 #[.val (.ref r0), .val (.long (own_acc f P i)), .second, .val (.int (Int32.ofNat (7 * i))), s4] [(.ref r0)])) rfl rfl (hb hby d7_32)
    refine own_step st3 ?_
    show own_Ends p e below s _ _ _ (T3.setTop (mkF m 35 #[.val (.ref r0), .val (.long (own_acc f P i)), .second, .val (.int (Int32.ofNat (7 * i))), s4] [(.ref rb)]))
    refine own_step (fun t k => XS.aloadN X3.here hx rfl (hb hby d7_35) rfl rfl k) ?_
    show own_Ends p e below s _ _ _ (T3.setTop (mkF m 36 #[.val (.ref r0), .val (.long (own_acc f P i)), .second, .val (.int (Int32.ofNat (7 * i))), s4] [(.ref r0), (.ref rb)]))
    refine own_step (fun t k => XS.dup X3.here hx rfl (hb hby d7_36) rfl rfl k) ?_
    show own_Ends p e below s _ _ _ (T3.setTop (mkF m 37 #[.val (.ref r0), .val (.long (own_acc f P i)), .second, .val (.int (Int32.ofNat (7 * i))), s4] [(.ref r0), (.ref r0), (.ref rb)]))
    obtain ⟨T4, X4, e4, st4⟩ := getF X3 hx hZ hown (host := "") (Or.inl (hw _ (List.mem_of_getElem? (i := 19) rfl))) Via.refl e3 F_position (g := (mkF m 37 #[.val (.ref r0), .val (.long (own_acc f P i)), .second, .val (.int (Int32.ofNat (7 * i))), s4] [(.ref r0), (.ref r0), (.ref rb)])) rfl rfl (hb hby d7_37)
    refine own_step st4 ?_
    show own_Ends p e below s _ _ _ (T4.setTop (mkF m 40 #[.val (.ref r0), .val (.long (own_acc f P i)), .second, .val (.int (Int32.ofNat (7 * i))), s4] [(.int w), (.ref r0), (.ref rb)]))
    refine own_step (fun t k => XS.dupX1 X4.here hx rfl (hb hby d7_40) rfl rfl rfl k) ?_
    show own_Ends p e below s _ _ _ (T4.setTop (mkF m 41 #[.val (.ref r0), .val (.long (own_acc f P i)), .second, .val (.int (Int32.ofNat (7 * i))), s4] [(.int w), (.ref r0), (.int w), (.ref rb)]))
    refine own_step (fun t k => XS.iconst X4.here hx rfl (hb hby d7_41) k) ?_
    show own_Ends p e below s _ _ _ (T4.setTop (mkF m 42 #[.val (.ref r0), .val (.long (own_acc f P i)), .second, .val (.int (Int32.ofNat (7 * i))), s4] [(.int (1 : Int32)), (.int w), (.ref r0), (.int w), (.ref rb)]))
    refine own_step (fun t k => XS.iadd X4.here hx rfl (hb hby d7_42) rfl k) ?_
    show own_Ends p e below s _ _ _ (T4.setTop (mkF m 43 #[.val (.ref r0), .val (.long (own_acc f P i)), .second, .val (.int (Int32.ofNat (7 * i))), s4] [(.int (w + (1 : Int32))), (.ref r0), (.int w), (.ref rb)]))
    obtain ⟨T5, h5, X5, e5, W5, st5⟩ := putF X4 hx hZ hown (host := "") (Or.inl (hw _ (List.mem_of_getElem? (i := 19) rfl))) Via.refl e4 F_position E_0 (Or.inl (hw _ (List.mem_of_getElem? (i := 20) rfl))) (hw _ (List.mem_of_getElem? (i := 2) rfl)) (ty := .int) (by decide) rfl rfl (g := (mkF m 43 #[.val (.ref r0), .val (.long (own_acc f P i)), .second, .val (.int (Int32.ofNat (7 * i))), s4] [(.int (w + (1 : Int32))), (.ref r0), (.int w), (.ref rb)])) rfl rfl (hb hby d7_43)
    refine own_step st5 ?_
    have N5 := Fr.snoc X5 N0 gn_r0
    have Z5 : n0 ≤ h5.size := by rw [W5.size]; exact Z0
    have u6 := (K_0.wr W5 (Or.inl (List.mem_of_getElem? (i := 0) rfl)))
    have u7 := (E_0.wr W5)
    have u8 := (F_bytes.other W5 (Or.inr (slot_ne (Or.inr (hw _ (List.mem_of_getElem? (i := 11) rfl))) (Or.inl (hw _ (List.mem_of_getElem? (i := 20) rfl))) (by decide) (t := (.array .byte)) (t' := .int) (by decide) (by decide))))
    have u9 := (F_end.other W5 (Or.inr (slot_ne (Or.inr (hw _ (List.mem_of_getElem? (i := 13) rfl))) (Or.inl (hw _ (List.mem_of_getElem? (i := 20) rfl))) (by decide) (t := .int) (t' := .int) (by decide) (by decide))))
    have u10 := (F_position.same W5)
    have u11 := (A_0.other W5 ne_rb_r0)
    show own_Ends p e below s _ _ _ (T5.setTop (mkF m 46 #[.val (.ref r0), .val (.long (own_acc f P i)), .second, .val (.int (Int32.ofNat (7 * i))), s4] [(.int w), (.ref rb)]))
    refine own_step (fun t k => own_ldB X5 hx hZ e5 u11 (P + i) hwi hlt (g := (mkF m 46 #[.val (.ref r0), .val (.long (own_acc f P i)), .second, .val (.int (Int32.ofNat (7 * i))), s4] [(.int w), (.ref rb)])) rfl rfl (hb hby d7_46) t k) ?_
    show own_Ends p e below s _ _ _ (T5.setTop (mkF m 47 #[.val (.ref r0), .val (.long (own_acc f P i)), .second, .val (.int (Int32.ofNat (7 * i))), s4] [(.int (f (P + i)))]))
    refine own_step (fun t k => XS.sipush X5.here hx rfl (hb hby d7_47) k) ?_
    show own_Ends p e below s _ _ _ (T5.setTop (mkF m 50 #[.val (.ref r0), .val (.long (own_acc f P i)), .second, .val (.int (Int32.ofNat (7 * i))), s4] [(.int (255 : Int32)), (.int (f (P + i)))]))
    refine own_step (fun t k => XS.iand X5.here hx rfl (hb hby d7_50) rfl k) ?_
    show own_Ends p e below s _ _ _ (T5.setTop (mkF m 51 #[.val (.ref r0), .val (.long (own_acc f P i)), .second, .val (.int (Int32.ofNat (7 * i))), s4] [(.int ((f (P + i)) &&& (255 : Int32)))]))
    refine own_step (fun t k => XS.istore X5.here hx rfl (hb hby d7_51) rfl (l' := #[.val (.ref r0), .val (.long (own_acc f P i)), .second, .val (.int (Int32.ofNat (7 * i))), .val (.int ((f (P + i)) &&& (255 : Int32)))]) (osV hs4) k) ?_
    show own_Ends p e below s _ _ _ (T5.setTop (mkF m 53 #[.val (.ref r0), .val (.long (own_acc f P i)), .second, .val (.int (Int32.ofNat (7 * i))), .val (.int ((f (P + i)) &&& (255 : Int32)))] []))
    refine own_step (fun t k => XS.iloadN X5.here hx rfl (hb hby d7_53) rfl k) ?_
    show own_Ends p e below s _ _ _ (T5.setTop (mkF m 54 #[.val (.ref r0), .val (.long (own_acc f P i)), .second, .val (.int (Int32.ofNat (7 * i))), .val (.int ((f (P + i)) &&& (255 : Int32)))] [(.int (Int32.ofNat (7 * i)))]))
    refine own_step (fun t k => XS.bipush X5.here hx rfl (hb hby d7_54) k) ?_
    show own_Ends p e below s _ _ _ (T5.setTop (mkF m 56 #[.val (.ref r0), .val (.long (own_acc f P i)), .second, .val (.int (Int32.ofNat (7 * i))), .val (.int ((f (P + i)) &&& (255 : Int32)))] [(.int (63 : Int32)), (.int (Int32.ofNat (7 * i)))]))
    by_cases hc56_12 : (Int32.ofNat (7 * i)) = (63 : Int32)
    · -- (Int32.ofNat (7 * i)) = (63 : Int32)
      refine own_step (fun t k => XS.icmpNo X5.here hx rfl (hb hby d7_56) rfl (teq hc56_12).2 k) ?_
      show own_Ends p e below s _ _ _ (T5.setTop (mkF m 59 #[.val (.ref r0), .val (.long (own_acc f P i)), .second, .val (.int (Int32.ofNat (7 * i))), .val (.int ((f (P + i)) &&& (255 : Int32)))] []))
      refine own_step (fun t k => XS.iload X5.here hx rfl (hb hby d7_59) rfl k) ?_
      show own_Ends p e below s _ _ _ (T5.setTop (mkF m 61 #[.val (.ref r0), .val (.long (own_acc f P i)), .second, .val (.int (Int32.ofNat (7 * i))), .val (.int ((f (P + i)) &&& (255 : Int32)))] [(.int ((f (P + i)) &&& (255 : Int32)))]))
      refine own_step (fun t k => XS.iconst X5.here hx rfl (hb hby d7_61) k) ?_
      show own_Ends p e below s _ _ _ (T5.setTop (mkF m 62 #[.val (.ref r0), .val (.long (own_acc f P i)), .second, .val (.int (Int32.ofNat (7 * i))), .val (.int ((f (P + i)) &&& (255 : Int32)))] [(.int (1 : Int32)), (.int ((f (P + i)) &&& (255 : Int32)))]))
      refine own_step (fun t k => XS.icmpYes X5.here hx rfl (pc0 := 62) (pc' := 68) rfl (hb hby d7_62) rfl (flt (hn9 (own_is9 hi9 hc56_12))).2.2.2 (by decide) (by decide) k) ?_
      show own_Ends p e below s _ _ _ (T5.setTop (mkF m 68 #[.val (.ref r0), .val (.long (own_acc f P i)), .second, .val (.int (Int32.ofNat (7 * i))), .val (.int ((f (P + i)) &&& (255 : Int32)))] []))
      refine own_step (fun t k => XS.lloadN X5.here hx rfl (hb hby d7_68) rfl k) ?_
      show own_Ends p e below s _ _ _ (T5.setTop (mkF m 69 #[.val (.ref r0), .val (.long (own_acc f P i)), .second, .val (.int (Int32.ofNat (7 * i))), .val (.int ((f (P + i)) &&& (255 : Int32)))] [(.long (own_acc f P i))]))
      refine own_step (fun t k => XS.iload X5.here hx rfl (hb hby d7_69) rfl k) ?_
      show own_Ends p e below s _ _ _ (T5.setTop (mkF m 71 #[.val (.ref r0), .val (.long (own_acc f P i)), .second, .val (.int (Int32.ofNat (7 * i))), .val (.int ((f (P + i)) &&& (255 : Int32)))] [(.int ((f (P + i)) &&& (255 : Int32))), (.long (own_acc f P i))]))
      refine own_step (fun t k => XS.bipush X5.here hx rfl (hb hby d7_71) k) ?_
      show own_Ends p e below s _ _ _ (T5.setTop (mkF m 73 #[.val (.ref r0), .val (.long (own_acc f P i)), .second, .val (.int (Int32.ofNat (7 * i))), .val (.int ((f (P + i)) &&& (255 : Int32)))] [(.int (127 : Int32)), (.int ((f (P + i)) &&& (255 : Int32))), (.long (own_acc f P i))]))
      refine own_step (fun t k => XS.iand X5.here hx rfl (hb hby d7_73) rfl k) ?_
      show own_Ends p e below s _ _ _ (T5.setTop (mkF m 74 #[.val (.ref r0), .val (.long (own_acc f P i)), .second, .val (.int (Int32.ofNat (7 * i))), .val (.int ((f (P + i)) &&& (255 : Int32)))] [(.int (((f (P + i)) &&& (255 : Int32)) &&& (127 : Int32))), (.long (own_acc f P i))]))
      refine own_step (fun t k => XS.i2l X5.here hx rfl (hb hby d7_74) rfl k) ?_
      show own_Ends p e below s _ _ _ (T5.setTop (mkF m 75 #[.val (.ref r0), .val (.long (own_acc f P i)), .second, .val (.int (Int32.ofNat (7 * i))), .val (.int ((f (P + i)) &&& (255 : Int32)))] [(.long ((((f (P + i)) &&& (255 : Int32)) &&& (127 : Int32)).toInt64)), (.long (own_acc f P i))]))
      refine own_step (fun t k => XS.iloadN X5.here hx rfl (hb hby d7_75) rfl k) ?_
      show own_Ends p e below s _ _ _ (T5.setTop (mkF m 76 #[.val (.ref r0), .val (.long (own_acc f P i)), .second, .val (.int (Int32.ofNat (7 * i))), .val (.int ((f (P + i)) &&& (255 : Int32)))] [(.int (Int32.ofNat (7 * i))), (.long ((((f (P + i)) &&& (255 : Int32)) &&& (127 : Int32)).toInt64)), (.long (own_acc f P i))]))
      refine own_step (fun t k => XS.lshl X5.here hx rfl (hb hby d7_76) rfl k) ?_
      show own_Ends p e below s _ _ _ (T5.setTop (mkF m 77 #[.val (.ref r0), .val (.long (own_acc f P i)), .second, .val (.int (Int32.ofNat (7 * i))), .val (.int ((f (P + i)) &&& (255 : Int32)))] [(.long (((((f (P + i)) &&& (255 : Int32)) &&& (127 : Int32)).toInt64) <<< ((Int32.ofNat (7 * i)) &&& 0x3f).toInt64)), (.long (own_acc f P i))]))
      refine own_step (fun t k => XS.lor X5.here hx rfl (hb hby d7_77) rfl k) ?_
      show own_Ends p e below s _ _ _ (T5.setTop (mkF m 78 #[.val (.ref r0), .val (.long (own_acc f P i)), .second, .val (.int (Int32.ofNat (7 * i))), .val (.int ((f (P + i)) &&& (255 : Int32)))] [(.long ((own_acc f P i) ||| (((((f (P + i)) &&& (255 : Int32)) &&& (127 : Int32)).toInt64) <<< ((Int32.ofNat (7 * i)) &&& 0x3f).toInt64)))]))
      refine own_step (fun t k => XS.lstoreN X5.here hx rfl (hb hby d7_78) rfl (l' := #[.val (.ref r0), .val (.long ((own_acc f P i) ||| (((((f (P + i)) &&& (255 : Int32)) &&& (127 : Int32)).toInt64) <<< ((Int32.ofNat (7 * i)) &&& 0x3f).toInt64))), .second, .val (.int (Int32.ofNat (7 * i))), .val (.int ((f (P + i)) &&& (255 : Int32)))]) rfl k) ?_
      show own_Ends p e below s _ _ _ (T5.setTop (mkF m 79 #[.val (.ref r0), .val (.long ((own_acc f P i) ||| (((((f (P + i)) &&& (255 : Int32)) &&& (127 : Int32)).toInt64) <<< ((Int32.ofNat (7 * i)) &&& 0x3f).toInt64))), .second, .val (.int (Int32.ofNat (7 * i))), .val (.int ((f (P + i)) &&& (255 : Int32)))] []))
      refine own_step (fun t k => XS.iload X5.here hx rfl (hb hby d7_79) rfl k) ?_
      show own_Ends p e below s _ _ _ (T5.setTop (mkF m 81 #[.val (.ref r0), .val (.long ((own_acc f P i) ||| (((((f (P + i)) &&& (255 : Int32)) &&& (127 : Int32)).toInt64) <<< ((Int32.ofNat (7 * i)) &&& 0x3f).toInt64))), .second, .val (.int (Int32.ofNat (7 * i))), .val (.int ((f (P + i)) &&& (255 : Int32)))] [(.int ((f (P + i)) &&& (255 : Int32)))]))
      refine own_step (fun t k => XS.sipush X5.here hx rfl (hb hby d7_81) k) ?_
      show own_Ends p e below s _ _ _ (T5.setTop (mkF m 84 #[.val (.ref r0), .val (.long ((own_acc f P i) ||| (((((f (P + i)) &&& (255 : Int32)) &&& (127 : Int32)).toInt64) <<< ((Int32.ofNat (7 * i)) &&& 0x3f).toInt64))), .second, .val (.int (Int32.ofNat (7 * i))), .val (.int ((f (P + i)) &&& (255 : Int32)))] [(.int (128 : Int32)), (.int ((f (P + i)) &&& (255 : Int32)))]))
      refine own_step (fun t k => XS.iand X5.here hx rfl (hb hby d7_84) rfl k) ?_
      show own_Ends p e below s _ _ _ (T5.setTop (mkF m 85 #[.val (.ref r0), .val (.long ((own_acc f P i) ||| (((((f (P + i)) &&& (255 : Int32)) &&& (127 : Int32)).toInt64) <<< ((Int32.ofNat (7 * i)) &&& 0x3f).toInt64))), .second, .val (.int (Int32.ofNat (7 * i))), .val (.int ((f (P + i)) &&& (255 : Int32)))] [(.int (((f (P + i)) &&& (255 : Int32)) &&& (128 : Int32)))]))
      refine own_step (fun t k => XS.ifNo X5.here hx rfl (hb hby d7_85) rfl ((if0 _ _).trans (teq hbit).2) k) ?_
      show own_Ends p e below s _ _ _ (T5.setTop (mkF m 88 #[.val (.ref r0), .val (.long ((own_acc f P i) ||| (((((f (P + i)) &&& (255 : Int32)) &&& (127 : Int32)).toInt64) <<< ((Int32.ofNat (7 * i)) &&& 0x3f).toInt64))), .second, .val (.int (Int32.ofNat (7 * i))), .val (.int ((f (P + i)) &&& (255 : Int32)))] []))
      refine own_step (fun t k => XS.lloadN X5.here hx rfl (hb hby d7_88) rfl k) ?_
      show own_Ends p e below s _ _ _ (T5.setTop (mkF m 89 #[.val (.ref r0), .val (.long ((own_acc f P i) ||| (((((f (P + i)) &&& (255 : Int32)) &&& (127 : Int32)).toInt64) <<< ((Int32.ofNat (7 * i)) &&& 0x3f).toInt64))), .second, .val (.int (Int32.ofNat (7 * i))), .val (.int ((f (P + i)) &&& (255 : Int32)))] [(.long ((own_acc f P i) ||| (((((f (P + i)) &&& (255 : Int32)) &&& (127 : Int32)).toInt64) <<< ((Int32.ofNat (7 * i)) &&& 0x3f).toInt64)))]))
      exact own_retL X5 hx hlk hret (hb hby d7_89) (by rw [e5]; exact ⟨(by rw [← hij]; rfl), N5, Z5, u6, u7, u8, u9, _, (by rw [← hij]; exact own_w1 (n := P + i) hwi (by omega)), u10⟩) (by decide) (by decide)
    · -- not (Int32.ofNat (7 * i)) = (63 : Int32)
      refine own_step (fun t k => XS.icmpYes X5.here hx rfl (pc0 := 56) (pc' := 68) rfl (hb hby d7_56) rfl (feq hc56_12).2 (by decide) (by decide) k) ?_
      show own_Ends p e below s _ _ _ (T5.setTop (mkF m 68 #[.val (.ref r0), .val (.long (own_acc f P i)), .second, .val (.int (Int32.ofNat (7 * i))), .val (.int ((f (P + i)) &&& (255 : Int32)))] []))
      refine own_step (fun t k => XS.lloadN X5.here hx rfl (hb hby d7_68) rfl k) ?_
      show own_Ends p e below s _ _ _ (T5.setTop (mkF m 69 #[.val (.ref r0), .val (.long (own_acc f P i)), .second, .val (.int (Int32.ofNat (7 * i))), .val (.int ((f (P + i)) &&& (255 : Int32)))] [(.long (own_acc f P i))]))
      refine own_step (fun t k => XS.iload X5.here hx rfl (hb hby d7_69) rfl k) ?_
      show own_Ends p e below s _ _ _ (T5.setTop (mkF m 71 #[.val (.ref r0), .val (.long (own_acc f P i)), .second, .val (.int (Int32.ofNat (7 * i))), .val (.int ((f (P + i)) &&& (255 : Int32)))] [(.int ((f (P + i)) &&& (255 : Int32))), (.long (own_acc f P i))]))
      refine own_step (fun t k => XS.bipush X5.here hx rfl (hb hby d7_71) k) ?_
      show own_Ends p e below s _ _ _ (T5.setTop (mkF m 73 #[.val (.ref r0), .val (.long (own_acc f P i)), .second, .val (.int (Int32.ofNat (7 * i))), .val (.int ((f (P + i)) &&& (255 : Int32)))] [(.int (127 : Int32)), (.int ((f (P + i)) &&& (255 : Int32))), (.long (own_acc f P i))]))
      refine own_step (fun t k => XS.iand X5.here hx rfl (hb hby d7_73) rfl k) ?_
      show own_Ends p e below s _ _ _ (T5.setTop (mkF m 74 #[.val (.ref r0), .val (.long (own_acc f P i)), .second, .val (.int (Int32.ofNat (7 * i))), .val (.int ((f (P + i)) &&& (255 : Int32)))] [(.int (((f (P + i)) &&& (255 : Int32)) &&& (127 : Int32))), (.long (own_acc f P i))]))
      refine own_step (fun t k => XS.i2l X5.here hx rfl (hb hby d7_74) rfl k) ?_
      show own_Ends p e below s _ _ _ (T5.setTop (mkF m 75 #[.val (.ref r0), .val (.long (own_acc f P i)), .second, .val (.int (Int32.ofNat (7 * i))), .val (.int ((f (P + i)) &&& (255 : Int32)))] [(.long ((((f (P + i)) &&& (255 : Int32)) &&& (127 : Int32)).toInt64)), (.long (own_acc f P i))]))
      refine own_step (fun t k => XS.iloadN X5.here hx rfl (hb hby d7_75) rfl k) ?_
      show own_Ends p e below s _ _ _ (T5.setTop (mkF m 76 #[.val (.ref r0), .val (.long (own_acc f P i)), .second, .val (.int (Int32.ofNat (7 * i))), .val (.int ((f (P + i)) &&& (255 : Int32)))] [(.int (Int32.ofNat (7 * i))), (.long ((((f (P + i)) &&& (255 : Int32)) &&& (127 : Int32)).toInt64)), (.long (own_acc f P i))]))
      refine own_step (fun t k => XS.lshl X5.here hx rfl (hb hby d7_76) rfl k) ?_
      show own_Ends p e below s _ _ _ (T5.setTop (mkF m 77 #[.val (.ref r0), .val (.long (own_acc f P i)), .second, .val (.int (Int32.ofNat (7 * i))), .val (.int ((f (P + i)) &&& (255 : Int32)))] [(.long (((((f (P + i)) &&& (255 : Int32)) &&& (127 : Int32)).toInt64) <<< ((Int32.ofNat (7 * i)) &&& 0x3f).toInt64)), (.long (own_acc f P i))]))
      refine own_step (fun t k => XS.lor X5.here hx rfl (hb hby d7_77) rfl k) ?_
      show own_Ends p e below s _ _ _ (T5.setTop (mkF m 78 #[.val (.ref r0), .val (.long (own_acc f P i)), .second, .val (.int (Int32.ofNat (7 * i))), .val (.int ((f (P + i)) &&& (255 : Int32)))] [(.long ((own_acc f P i) ||| (((((f (P + i)) &&& (255 : Int32)) &&& (127 : Int32)).toInt64) <<< ((Int32.ofNat (7 * i)) &&& 0x3f).toInt64)))]))
      refine own_step (fun t k => XS.lstoreN X5.here hx rfl (hb hby d7_78) rfl (l' := #[.val (.ref r0), .val (.long ((own_acc f P i) ||| (((((f (P + i)) &&& (255 : Int32)) &&& (127 : Int32)).toInt64) <<< ((Int32.ofNat (7 * i)) &&& 0x3f).toInt64))), .second, .val (.int (Int32.ofNat (7 * i))), .val (.int ((f (P + i)) &&& (255 : Int32)))]) rfl k) ?_
      show own_Ends p e below s _ _ _ (T5.setTop (mkF m 79 #[.val (.ref r0), .val (.long ((own_acc f P i) ||| (((((f (P + i)) &&& (255 : Int32)) &&& (127 : Int32)).toInt64) <<< ((Int32.ofNat (7 * i)) &&& 0x3f).toInt64))), .second, .val (.int (Int32.ofNat (7 * i))), .val (.int ((f (P + i)) &&& (255 : Int32)))] []))
      refine own_step (fun t k => XS.iload X5.here hx rfl (hb hby d7_79) rfl k) ?_
      show own_Ends p e below s _ _ _ (T5.setTop (mkF m 81 #[.val (.ref r0), .val (.long ((own_acc f P i) ||| (((((f (P + i)) &&& (255 : Int32)) &&& (127 : Int32)).toInt64) <<< ((Int32.ofNat (7 * i)) &&& 0x3f).toInt64))), .second, .val (.int (Int32.ofNat (7 * i))), .val (.int ((f (P + i)) &&& (255 : Int32)))] [(.int ((f (P + i)) &&& (255 : Int32)))]))
      refine own_step (fun t k => XS.sipush X5.here hx rfl (hb hby d7_81) k) ?_
      show own_Ends p e below s _ _ _ (T5.setTop (mkF m 84 #[.val (.ref r0), .val (.long ((own_acc f P i) ||| (((((f (P + i)) &&& (255 : Int32)) &&& (127 : Int32)).toInt64) <<< ((Int32.ofNat (7 * i)) &&& 0x3f).toInt64))), .second, .val (.int (Int32.ofNat (7 * i))), .val (.int ((f (P + i)) &&& (255 : Int32)))] [(.int (128 : Int32)), (.int ((f (P + i)) &&& (255 : Int32)))]))
      refine own_step (fun t k => XS.iand X5.here hx rfl (hb hby d7_84) rfl k) ?_
      show own_Ends p e below s _ _ _ (T5.setTop (mkF m 85 #[.val (.ref r0), .val (.long ((own_acc f P i) ||| (((((f (P + i)) &&& (255 : Int32)) &&& (127 : Int32)).toInt64) <<< ((Int32.ofNat (7 * i)) &&& 0x3f).toInt64))), .second, .val (.int (Int32.ofNat (7 * i))), .val (.int ((f (P + i)) &&& (255 : Int32)))] [(.int (((f (P + i)) &&& (255 : Int32)) &&& (128 : Int32)))]))
      refine own_step (fun t k => XS.ifNo X5.here hx rfl (hb hby d7_85) rfl ((if0 _ _).trans (teq hbit).2) k) ?_
      show own_Ends p e below s _ _ _ (T5.setTop (mkF m 88 #[.val (.ref r0), .val (.long ((own_acc f P i) ||| (((((f (P + i)) &&& (255 : Int32)) &&& (127 : Int32)).toInt64) <<< ((Int32.ofNat (7 * i)) &&& 0x3f).toInt64))), .second, .val (.int (Int32.ofNat (7 * i))), .val (.int ((f (P + i)) &&& (255 : Int32)))] []))
      refine own_step (fun t k => XS.lloadN X5.here hx rfl (hb hby d7_88) rfl k) ?_
      show own_Ends p e below s _ _ _ (T5.setTop (mkF m 89 #[.val (.ref r0), .val (.long ((own_acc f P i) ||| (((((f (P + i)) &&& (255 : Int32)) &&& (127 : Int32)).toInt64) <<< ((Int32.ofNat (7 * i)) &&& 0x3f).toInt64))), .second, .val (.int (Int32.ofNat (7 * i))), .val (.int ((f (P + i)) &&& (255 : Int32)))] [(.long ((own_acc f P i) ||| (((((f (P + i)) &&& (255 : Int32)) &&& (127 : Int32)).toInt64) <<< ((Int32.ofNat (7 * i)) &&& 0x3f).toInt64)))]))
      exact own_retL X5 hx hlk hret (hb hby d7_89) (by rw [e5]; exact ⟨(by rw [← hij]; rfl), N5, Z5, u6, u7, u8, u9, _, (by rw [← hij]; exact own_w1 (n := P + i) hwi (by omega)), u10⟩) (by decide) (by decide)
  | succ k ih =>
    intro i hik T locs hh w s4 hs4 hwi X0 e0 N0 Z0 K_0 E_0 F_bytes F_end F_position A_0
    have hi9 : i ≤ 9 := by omega
    have hlt : P + i < nb := by omega
    have hne : ¬ w = en := fun q => hend i (by omega) (hwi.symm.trans (congrArg Int32.toInt q))
    have hbit : ¬ (((f (P + i)) &&& (255 : Int32)) &&& (128 : Int32)) = (0 : Int32) := hmore i (by omega)
    show own_Ends p e below s _ _ _ (T.setTop (mkF m 4 #[.val (.ref r0), .val (.long (own_acc f P i)), .second, .val (.int (Int32.ofNat (7 * i))), s4] []))
    refine own_step (fun t k => XS.iloadN X0.here hx rfl (hb hby d7_4) rfl k) ?_
    show own_Ends p e below s _ _ _ (T.setTop (mkF m 5 #[.val (.ref r0), .val (.long (own_acc f P i)), .second, .val (.int (Int32.ofNat (7 * i))), s4] [(.int (Int32.ofNat (7 * i)))]))
    refine own_step (fun t k => XS.bipush X0.here hx rfl (hb hby d7_5) k) ?_
    show own_Ends p e below s _ _ _ (T.setTop (mkF m 7 #[.val (.ref r0), .val (.long (own_acc f P i)), .second, .val (.int (Int32.ofNat (7 * i))), s4] [(.int (64 : Int32)), (.int (Int32.ofNat (7 * i)))]))
    refine own_step (fun t k => XS.icmpNo X0.here hx rfl (hb hby d7_7) rfl (tlt (own_sh64 hi9)).2.1 k) ?_
    show own_Ends p e below s _ _ _ (T.setTop (mkF m 10 #[.val (.ref r0), .val (.long (own_acc f P i)), .second, .val (.int (Int32.ofNat (7 * i))), s4] []))
    refine own_step (fun t k => XS.aloadN X0.here hx rfl (hb hby d7_10) rfl rfl k) ?_
    show own_Ends p e below s _ _ _ (T.setTop (mkF m 11 #[.val (.ref r0), .val (.long (own_acc f P i)), .second, .val (.int (Int32.ofNat (7 * i))), s4] [(.ref r0)]))
    obtain ⟨T1, X1, e1, st1⟩ := getF X0 hx hZ hown (host := "") (Or.inl (hw _ (List.mem_of_getElem? (i := 19) rfl))) Via.refl e0 F_position (g := (mkF m 11 #[.val (.ref r0), .val (.long (own_acc f P i)), .second, .val (.int (Int32.ofNat (7 * i))), s4] [(.ref r0)])) rfl rfl (hb hby d7_11)
    refine own_step st1 ?_
    show own_Ends p e below s _ _ _ (T1.setTop (mkF m 14 #[.val (.ref r0), .val (.long (own_acc f P i)), .second, .val (.int (Int32.ofNat (7 * i))), s4] [(.int w)]))
    refine own_step (fun t k => XS.aloadN X1.here hx rfl (hb hby d7_14) rfl rfl k) ?_
    show own_Ends p e below s _ _ _ (T1.setTop (mkF m 15 #[.val (.ref r0), .val (.long (own_acc f P i)), .second, .val (.int (Int32.ofNat (7 * i))), s4] [(.ref r0), (.int w)]))
    obtain ⟨T2, X2, e2, st2⟩ := getF X1 hx hZ hown (host := "") (Or.inl (hw _ (List.mem_of_getElem? (i := 12) rfl))) Via.refl e1 F_end (g := (mkF m 15 #[.val (.ref r0), .val (.long (own_acc f P i)), .second, .val (.int (Int32.ofNat (7 * i))), s4] [(.ref r0), (.int w)])) rfl rfl (hb hby d7_15)
    refine own_step st2 ?_
    show own_Ends p e below s _ _ _ (T2.setTop (mkF m 18 #[.val (.ref r0), .val (.long (own_acc f P i)), .second, .val (.int (Int32.ofNat (7 * i))), s4] [(.int en), (.int w)]))
    refine own_step (fun t k => XS.icmpYes X2.here hx rfl (pc0 := 18) (pc' := 31) rfl (hb hby d7_18) rfl (feq hne).2 (by decide) (by decide) k) ?_
    show own_Ends p e below s _ _ _ (T2.setTop (mkF m 31 #[.val (.ref r0), .val (.long (own_acc f P i)), .second, .val (.int (Int32.ofNat (7 * i))), s4] []))
    refine own_step (fun t k => XS.aloadN X2.here hx rfl (hb hby d7_31) rfl rfl k) ?_
    show own_Ends p e below s _ _ _ (T2.setTop (mkF m 32 #[.val (.ref r0), .val (.long (own_acc f P i)), .second, .val (.int (Int32.ofNat (7 * i))), s4] [(.ref r0)]))
    obtain ⟨T3, X3, e3, st3⟩ := getF X2 hx hZ hown (host := "") (Or.inl (hw _ (List.mem_of_getElem? (i := 10) rfl))) Via.refl e2 F_bytes (g := (mkF m 32 #[.val (.ref r0), .val (.long (own_acc f P i)), .second, .val (.int (Int32.ofNat (7 * i))), s4] [(.ref r0)])) rfl rfl (hb hby d7_32)
    refine own_step st3 ?_
    show own_Ends p e below s _ _ _ (T3.setTop (mkF m 35 #[.val (.ref r0), .val (.long (own_acc f P i)), .second, .val (.int (Int32.ofNat (7 * i))), s4] [(.ref rb)]))
    refine own_step (fun t k => XS.aloadN X3.here hx rfl (hb hby d7_35) rfl rfl k) ?_
    show own_Ends p e below s _ _ _ (T3.setTop (mkF m 36 #[.val (.ref r0), .val (.long (own_acc f P i)), .second, .val (.int (Int32.ofNat (7 * i))), s4] [(.ref r0), (.ref rb)]))
    refine own_step (fun t k => XS.dup X3.here hx rfl (hb hby d7_36) rfl rfl k) ?_
    show own_Ends p e below s _ _ _ (T3.setTop (mkF m 37 #[.val (.ref r0), .val (.long (own_acc f P i)), .second, .val (.int (Int32.ofNat (7 * i))), s4] [(.ref r0), (.ref r0), (.ref rb)]))
    obtain ⟨T4, X4, e4, st4⟩ := getF X3 hx hZ hown (host := "") (Or.inl (hw _ (List.mem_of_getElem? (i := 19) rfl))) Via.refl e3 F_position (g := (mkF m 37 #[.val (.ref r0), .val (.long (own_acc f P i)), .second, .val (.int (Int32.ofNat (7 * i))), s4] [(.ref r0), (.ref r0), (.ref rb)])) rfl rfl (hb hby d7_37)
    refine own_step st4 ?_
    show own_Ends p e below s _ _ _ (T4.setTop (mkF m 40 #[.val (.ref r0), .val (.long (own_acc f P i)), .second, .val (.int (Int32.ofNat (7 * i))), s4] [(.int w), (.ref r0), (.ref rb)]))
    refine own_step (fun t k => XS.dupX1 X4.here hx rfl (hb hby d7_40) rfl rfl rfl k) ?_
    show own_Ends p e below s _ _ _ (T4.setTop (mkF m 41 #[.val (.ref r0), .val (.long (own_acc f P i)), .second, .val (.int (Int32.ofNat (7 * i))), s4] [(.int w), (.ref r0), (.int w), (.ref rb)]))
    refine own_step (fun t k => XS.iconst X4.here hx rfl (hb hby d7_41) k) ?_
    show own_Ends p e below s _ _ _ (T4.setTop (mkF m 42 #[.val (.ref r0), .val (.long (own_acc f P i)), .second, .val (.int (Int32.ofNat (7 * i))), s4] [(.int (1 : Int32)), (.int w), (.ref r0), (.int w), (.ref rb)]))
    refine own_step (fun t k => XS.iadd X4.here hx rfl (hb hby d7_42) rfl k) ?_
    show own_Ends p e below s _ _ _ (T4.setTop (mkF m 43 #[.val (.ref r0), .val (.long (own_acc f P i)), .second, .val (.int (Int32.ofNat (7 * i))), s4] [(.int (w + (1 : Int32))), (.ref r0), (.int w), (.ref rb)]))
    obtain ⟨T5, h5, X5, e5, W5, st5⟩ := putF X4 hx hZ hown (host := "") (Or.inl (hw _ (List.mem_of_getElem? (i := 19) rfl))) Via.refl e4 F_position E_0 (Or.inl (hw _ (List.mem_of_getElem? (i := 20) rfl))) (hw _ (List.mem_of_getElem? (i := 2) rfl)) (ty := .int) (by decide) rfl rfl (g := (mkF m 43 #[.val (.ref r0), .val (.long (own_acc f P i)), .second, .val (.int (Int32.ofNat (7 * i))), s4] [(.int (w + (1 : Int32))), (.ref r0), (.int w), (.ref rb)])) rfl rfl (hb hby d7_43)
    refine own_step st5 ?_
    have N5 := Fr.snoc X5 N0 gn_r0
    have Z5 : n0 ≤ h5.size := by rw [W5.size]; exact Z0
    have u6 := (K_0.wr W5 (Or.inl (List.mem_of_getElem? (i := 0) rfl)))
    have u7 := (E_0.wr W5)
    have u8 := (F_bytes.other W5 (Or.inr (slot_ne (Or.inr (hw _ (List.mem_of_getElem? (i := 11) rfl))) (Or.inl (hw _ (List.mem_of_getElem? (i := 20) rfl))) (by decide) (t := (.array .byte)) (t' := .int) (by decide) (by decide))))
    have u9 := (F_end.other W5 (Or.inr (slot_ne (Or.inr (hw _ (List.mem_of_getElem? (i := 13) rfl))) (Or.inl (hw _ (List.mem_of_getElem? (i := 20) rfl))) (by decide) (t := .int) (t' := .int) (by decide) (by decide))))
    have u10 := (F_position.same W5)
    have u11 := (A_0.other W5 ne_rb_r0)
    show own_Ends p e below s _ _ _ (T5.setTop (mkF m 46 #[.val (.ref r0), .val (.long (own_acc f P i)), .second, .val (.int (Int32.ofNat (7 * i))), s4] [(.int w), (.ref rb)]))
    refine own_step (fun t k => own_ldB X5 hx hZ e5 u11 (P + i) hwi hlt (g := (mkF m 46 #[.val (.ref r0), .val (.long (own_acc f P i)), .second, .val (.int (Int32.ofNat (7 * i))), s4] [(.int w), (.ref rb)])) rfl rfl (hb hby d7_46) t k) ?_
    show own_Ends p e below s _ _ _ (T5.setTop (mkF m 47 #[.val (.ref r0), .val (.long (own_acc f P i)), .second, .val (.int (Int32.ofNat (7 * i))), s4] [(.int (f (P + i)))]))
    refine own_step (fun t k => XS.sipush X5.here hx rfl (hb hby d7_47) k) ?_
    show own_Ends p e below s _ _ _ (T5.setTop (mkF m 50 #[.val (.ref r0), .val (.long (own_acc f P i)), .second, .val (.int (Int32.ofNat (7 * i))), s4] [(.int (255 : Int32)), (.int (f (P + i)))]))
    refine own_step (fun t k => XS.iand X5.here hx rfl (hb hby d7_50) rfl k) ?_
    show own_Ends p e below s _ _ _ (T5.setTop (mkF m 51 #[.val (.ref r0), .val (.long (own_acc f P i)), .second, .val (.int (Int32.ofNat (7 * i))), s4] [(.int ((f (P + i)) &&& (255 : Int32)))]))
    refine own_step (fun t k => XS.istore X5.here hx rfl (hb hby d7_51) rfl (l' := #[.val (.ref r0), .val (.long (own_acc f P i)), .second, .val (.int (Int32.ofNat (7 * i))), .val (.int ((f (P + i)) &&& (255 : Int32)))]) (osV hs4) k) ?_
    show own_Ends p e below s _ _ _ (T5.setTop (mkF m 53 #[.val (.ref r0), .val (.long (own_acc f P i)), .second, .val (.int (Int32.ofNat (7 * i))), .val (.int ((f (P + i)) &&& (255 : Int32)))] []))
    refine own_step (fun t k => XS.iloadN X5.here hx rfl (hb hby d7_53) rfl k) ?_
    show own_Ends p e below s _ _ _ (T5.setTop (mkF m 54 #[.val (.ref r0), .val (.long (own_acc f P i)), .second, .val (.int (Int32.ofNat (7 * i))), .val (.int ((f (P + i)) &&& (255 : Int32)))] [(.int (Int32.ofNat (7 * i)))]))
    refine own_step (fun t k => XS.bipush X5.here hx rfl (hb hby d7_54) k) ?_
    show own_Ends p e below s _ _ _ (T5.setTop (mkF m 56 #[.val (.ref r0), .val (.long (own_acc f P i)), .second, .val (.int (Int32.ofNat (7 * i))), .val (.int ((f (P + i)) &&& (255 : Int32)))] [(.int (63 : Int32)), (.int (Int32.ofNat (7 * i)))]))
    refine own_step (fun t k => XS.icmpYes X5.here hx rfl (pc0 := 56) (pc' := 68) rfl (hb hby d7_56) rfl (feq (fun q => absurd (own_is9 hi9 q) (by omega))).2 (by decide) (by decide) k) ?_
    show own_Ends p e below s _ _ _ (T5.setTop (mkF m 68 #[.val (.ref r0), .val (.long (own_acc f P i)), .second, .val (.int (Int32.ofNat (7 * i))), .val (.int ((f (P + i)) &&& (255 : Int32)))] []))
    refine own_step (fun t k => XS.lloadN X5.here hx rfl (hb hby d7_68) rfl k) ?_
    show own_Ends p e below s _ _ _ (T5.setTop (mkF m 69 #[.val (.ref r0), .val (.long (own_acc f P i)), .second, .val (.int (Int32.ofNat (7 * i))), .val (.int ((f (P + i)) &&& (255 : Int32)))] [(.long (own_acc f P i))]))
    refine own_step (fun t k => XS.iload X5.here hx rfl (hb hby d7_69) rfl k) ?_
    show own_Ends p e below s _ _ _ (T5.setTop (mkF m 71 #[.val (.ref r0), .val (.long (own_acc f P i)), .second, .val (.int (Int32.ofNat (7 * i))), .val (.int ((f (P + i)) &&& (255 : Int32)))] [(.int ((f (P + i)) &&& (255 : Int32))), (.long (own_acc f P i))]))
    refine own_step (fun t k => XS.bipush X5.here hx rfl (hb hby d7_71) k) ?_
    show own_Ends p e below s _ _ _ (T5.setTop (mkF m 73 #[.val (.ref r0), .val (.long (own_acc f P i)), .second, .val (.int (Int32.ofNat (7 * i))), .val (.int ((f (P + i)) &&& (255 : Int32)))] [(.int (127 : Int32)), (.int ((f (P + i)) &&& (255 : Int32))), (.long (own_acc f P i))]))
    refine own_step (fun t k => XS.iand X5.here hx rfl (hb hby d7_73) rfl k) ?_
    show own_Ends p e below s _ _ _ (T5.setTop (mkF m 74 #[.val (.ref r0), .val (.long (own_acc f P i)), .second, .val (.int (Int32.ofNat (7 * i))), .val (.int ((f (P + i)) &&& (255 : Int32)))] [(.int (((f (P + i)) &&& (255 : Int32)) &&& (127 : Int32))), (.long (own_acc f P i))]))
    refine own_step (fun t k => XS.i2l X5.here hx rfl (hb hby d7_74) rfl k) ?_
    show own_Ends p e below s _ _ _ (T5.setTop (mkF m 75 #[.val (.ref r0), .val (.long (own_acc f P i)), .second, .val (.int (Int32.ofNat (7 * i))), .val (.int ((f (P + i)) &&& (255 : Int32)))] [(.long ((((f (P + i)) &&& (255 : Int32)) &&& (127 : Int32)).toInt64)), (.long (own_acc f P i))]))
    refine own_step (fun t k => XS.iloadN X5.here hx rfl (hb hby d7_75) rfl k) ?_
    show own_Ends p e below s _ _ _ (T5.setTop (mkF m 76 #[.val (.ref r0), .val (.long (own_acc f P i)), .second, .val (.int (Int32.ofNat (7 * i))), .val (.int ((f (P + i)) &&& (255 : Int32)))] [(.int (Int32.ofNat (7 * i))), (.long ((((f (P + i)) &&& (255 : Int32)) &&& (127 : Int32)).toInt64)), (.long (own_acc f P i))]))
    refine own_step (fun t k => XS.lshl X5.here hx rfl (hb hby d7_76) rfl k) ?_
    show own_Ends p e below s _ _ _ (T5.setTop (mkF m 77 #[.val (.ref r0), .val (.long (own_acc f P i)), .second, .val (.int (Int32.ofNat (7 * i))), .val (.int ((f (P + i)) &&& (255 : Int32)))] [(.long (((((f (P + i)) &&& (255 : Int32)) &&& (127 : Int32)).toInt64) <<< ((Int32.ofNat (7 * i)) &&& 0x3f).toInt64)), (.long (own_acc f P i))]))
    refine own_step (fun t k => XS.lor X5.here hx rfl (hb hby d7_77) rfl k) ?_
    show own_Ends p e below s _ _ _ (T5.setTop (mkF m 78 #[.val (.ref r0), .val (.long (own_acc f P i)), .second, .val (.int (Int32.ofNat (7 * i))), .val (.int ((f (P + i)) &&& (255 : Int32)))] [(.long ((own_acc f P i) ||| (((((f (P + i)) &&& (255 : Int32)) &&& (127 : Int32)).toInt64) <<< ((Int32.ofNat (7 * i)) &&& 0x3f).toInt64)))]))
    refine own_step (fun t k => XS.lstoreN X5.here hx rfl (hb hby d7_78) rfl (l' := #[.val (.ref r0), .val (.long ((own_acc f P i) ||| (((((f (P + i)) &&& (255 : Int32)) &&& (127 : Int32)).toInt64) <<< ((Int32.ofNat (7 * i)) &&& 0x3f).toInt64))), .second, .val (.int (Int32.ofNat (7 * i))), .val (.int ((f (P + i)) &&& (255 : Int32)))]) rfl k) ?_
    show own_Ends p e below s _ _ _ (T5.setTop (mkF m 79 #[.val (.ref r0), .val (.long ((own_acc f P i) ||| (((((f (P + i)) &&& (255 : Int32)) &&& (127 : Int32)).toInt64) <<< ((Int32.ofNat (7 * i)) &&& 0x3f).toInt64))), .second, .val (.int (Int32.ofNat (7 * i))), .val (.int ((f (P + i)) &&& (255 : Int32)))] []))
    refine own_step (fun t k => XS.iload X5.here hx rfl (hb hby d7_79) rfl k) ?_
    show own_Ends p e below s _ _ _ (T5.setTop (mkF m 81 #[.val (.ref r0), .val (.long ((own_acc f P i) ||| (((((f (P + i)) &&& (255 : Int32)) &&& (127 : Int32)).toInt64) <<< ((Int32.ofNat (7 * i)) &&& 0x3f).toInt64))), .second, .val (.int (Int32.ofNat (7 * i))), .val (.int ((f (P + i)) &&& (255 : Int32)))] [(.int ((f (P + i)) &&& (255 : Int32)))]))
    refine own_step (fun t k => XS.sipush X5.here hx rfl (hb hby d7_81) k) ?_
    show own_Ends p e below s _ _ _ (T5.setTop (mkF m 84 #[.val (.ref r0), .val (.long ((own_acc f P i) ||| (((((f (P + i)) &&& (255 : Int32)) &&& (127 : Int32)).toInt64) <<< ((Int32.ofNat (7 * i)) &&& 0x3f).toInt64))), .second, .val (.int (Int32.ofNat (7 * i))), .val (.int ((f (P + i)) &&& (255 : Int32)))] [(.int (128 : Int32)), (.int ((f (P + i)) &&& (255 : Int32)))]))
    refine own_step (fun t k => XS.iand X5.here hx rfl (hb hby d7_84) rfl k) ?_
    show own_Ends p e below s _ _ _ (T5.setTop (mkF m 85 #[.val (.ref r0), .val (.long ((own_acc f P i) ||| (((((f (P + i)) &&& (255 : Int32)) &&& (127 : Int32)).toInt64) <<< ((Int32.ofNat (7 * i)) &&& 0x3f).toInt64))), .second, .val (.int (Int32.ofNat (7 * i))), .val (.int ((f (P + i)) &&& (255 : Int32)))] [(.int (((f (P + i)) &&& (255 : Int32)) &&& (128 : Int32)))]))
    refine own_step (fun t k => XS.ifYes X5.here hx rfl (pc0 := 85) (pc' := 90) rfl (hb hby d7_85) rfl ((if0 _ _).trans (feq hbit).2) (by decide) (by decide) k) ?_
    show own_Ends p e below s _ _ _ (T5.setTop (mkF m 90 #[.val (.ref r0), .val (.long ((own_acc f P i) ||| (((((f (P + i)) &&& (255 : Int32)) &&& (127 : Int32)).toInt64) <<< ((Int32.ofNat (7 * i)) &&& 0x3f).toInt64))), .second, .val (.int (Int32.ofNat (7 * i))), .val (.int ((f (P + i)) &&& (255 : Int32)))] []))
    refine own_step (fun t k => XS.iinc X5.here hx rfl (hb hby d7_90) rfl (l' := #[.val (.ref r0), .val (.long ((own_acc f P i) ||| (((((f (P + i)) &&& (255 : Int32)) &&& (127 : Int32)).toInt64) <<< ((Int32.ofNat (7 * i)) &&& 0x3f).toInt64))), .second, .val (.int ((Int32.ofNat (7 * i)) + (7 : Int32))), .val (.int ((f (P + i)) &&& (255 : Int32)))]) rfl k) ?_
    show own_Ends p e below s _ _ _ (T5.setTop (mkF m 93 #[.val (.ref r0), .val (.long ((own_acc f P i) ||| (((((f (P + i)) &&& (255 : Int32)) &&& (127 : Int32)).toInt64) <<< ((Int32.ofNat (7 * i)) &&& 0x3f).toInt64))), .second, .val (.int ((Int32.ofNat (7 * i)) + (7 : Int32))), .val (.int ((f (P + i)) &&& (255 : Int32)))] []))
    refine own_step (fun t k => XS.goto X5.here hx rfl (pc0 := 93) (pc' := 4) rfl (hb hby d7_93) (by decide) (by decide) k) ?_
    show own_Ends p e below s _ _ _ (T5.setTop (mkF m 4 #[.val (.ref r0), .val (.long ((own_acc f P i) ||| (((((f (P + i)) &&& (255 : Int32)) &&& (127 : Int32)).toInt64) <<< ((Int32.ofNat (7 * i)) &&& 0x3f).toInt64))), .second, .val (.int ((Int32.ofNat (7 * i)) + (7 : Int32))), .val (.int ((f (P + i)) &&& (255 : Int32)))] []))
    rw [own_shS hi9]
    exact ih (i + 1) (by omega) _ _ _ _ _ (One.val rfl) (own_w1 (n := P + i) hwi (by omega)) X5 e5 N5 Z5 u6 u7 u8 u9 u10 u11
set_option maxRecDepth 65536 in
set_option maxHeartbeats 40000000 in
theorem rm7 (l : Launch) (Z : State) (a0 : Array Value) (hw : ∀ d ∈ tables_1, d.before a0 Z = true) (ws : List Jvm.Cond) (r0 : Addr) (rb : Addr) (en ps : Int32) (nb : Nat) (f : Nat → Int32) (P j : Nat) (h0 : Heap) (n0 : Nat) (Z0 : n0 ≤ h0.size) (gn_r0 : n0 ≤ r0) (E_0 : Exa Z h0 r0 "com/example/weftline/weftline/runner/CompactWire$Body") (F_bytes : Fld Z h0 r0 "com/example/weftline/weftline/runner/CompactWire$Body" "bytes" "[B" (.ref rb)) (F_end : Fld Z h0 r0 "com/example/weftline/weftline/runner/CompactWire$Body" "end" "I" (.int en)) (F_position : Fld Z h0 r0 "com/example/weftline/weftline/runner/CompactWire$Body" "position" "I" (.int ps)) (A_0 : own_AI Z h0 rb .byte nb f) (ne_rb_r0 : rb ≠ r0) (hP : ps.toInt = ((P + 0 : Nat) : Int)) (hj : j ≤ 9) (hlen : P + j < nb) (hnb : nb ≤ 900) (hmore : ∀ i, i < j → ¬ (((f (P + i)) &&& (255 : Int32)) &&& (128 : Int32)) = (0 : Int32)) (hlast : (((f (P + j)) &&& (255 : Int32)) &&& (128 : Int32)) = (0 : Int32)) (hnine : j = 9 → ¬ ((1 : Int32) < ((f (P + 9)) &&& (255 : Int32)))) (hend : ∀ i, i ≤ j → ((P + i : Nat) : Int) ≠ en.toInt) :
    MetFree l (⟨"com/example/weftline/weftline/runner/CompactWire$Body", "varint", "()J"⟩ : MethodName) (head1 (Jvm.Cond.code (⟨"com/example/weftline/weftline/runner/CompactWire$Body", "varint", "()J"⟩ : MethodName) prog_30_method_3_code 5 (some .long) :: ws) ({ frames := 0, cells := 0, slots := 0, locals := 0 } : Room)) (fun a U => a = #[(.ref r0)] ∧ Z.Warmed39 U.vm ∧ U.heap = h0) (fun _ _ _ _ _ => True) (fun _ U o U' => ∃ v L, o = .returned v ∧ (Q7 Z r0 rb en f P j h0 n0) v U'.heap L ∧ FrameEnd U o U' L ({ frames := 0, cells := 0, slots := 0, locals := 0 } : Room).cells ({ frames := 0, cells := 0, slots := 0, locals := 0 } : Room).slots) := by
  refine MetFree.of_bodySF (plainFor_of_name pn_7) hisR ?_
  intro p e s m args below meth c s₁ Bd hml0 hP hK
  obtain ⟨rfl, hZ, hh⟩ := hP
  have hx := Bd.exec
  have hby := Bd.bytes
  have hret := Bd.returns
  have hlk := BodyLoose.notSynchronized Bd
  have hml : c.maxLocals = 5 := hml0
  have hown : s.vm.findClass "com/example/weftline/weftline/runner/CompactWire$Body" = some m.cls := findClass_of_methodNamed Bd.named
  have hnm := (name_of_methodNamed Bd.named Bd.method).1
  have X0 : Stand p l e ({ frames := 0, cells := 0, slots := 0, locals := 0 } : Room) s m #[(.ref r0)] below meth c s₁ [] 0 0 := Stand.of_body Bd
  have e0 : s₁.heap = h0 := by rw [← hh, Bd.state]; rfl
  have N0 := Fr.nil n0
  show own_Ends p e below s ({ frames := 0, cells := 0, slots := 0, locals := 0 } : Room).cells ({ frames := 0, cells := 0, slots := 0, locals := 0 } : Room).slots (Q7 Z r0 rb en f P j h0 n0) (s₁.setTop (entryFrame m #[(.ref r0)] 5))
  refine own_cast (ef_7 m r0) ?_
  show own_Ends p e below s _ _ _ (s₁.setTop (mkF m 0 #[.val (.ref r0), .unset, .unset, .unset, .unset] []))
  refine own_step (fun t k => XS.lconst X0.here hx rfl (hb hby d7_0) k) ?_
  show own_Ends p e below s _ _ _ (s₁.setTop (mkF m 1 #[.val (.ref r0), .unset, .unset, .unset, .unset] [(.long (0 : Int64))]))
  refine own_step (fun t k => XS.lstoreN X0.here hx rfl (hb hby d7_1) rfl (l' := #[.val (.ref r0), .val (.long (0 : Int64)), .second, .unset, .unset]) rfl k) ?_
  show own_Ends p e below s _ _ _ (s₁.setTop (mkF m 2 #[.val (.ref r0), .val (.long (0 : Int64)), .second, .unset, .unset] []))
  refine own_step (fun t k => XS.iconst X0.here hx rfl (hb hby d7_2) k) ?_
  show own_Ends p e below s _ _ _ (s₁.setTop (mkF m 3 #[.val (.ref r0), .val (.long (0 : Int64)), .second, .unset, .unset] [(.int (0 : Int32))]))
  refine own_step (fun t k => XS.istoreN X0.here hx rfl (hb hby d7_3) rfl (l' := #[.val (.ref r0), .val (.long (0 : Int64)), .second, .val (.int (0 : Int32)), .unset]) rfl k) ?_
  show own_Ends p e below s _ _ _ (s₁.setTop (mkF m 4 #[.val (.ref r0), .val (.long (0 : Int64)), .second, .val (.int (0 : Int32)), .unset] []))
  exact loopV r0 rb en nb f P j hx hZ hw hby hml hown hret hlk gn_r0 ne_rb_r0 hj hlen hnb hmore hlast hnine hend j 0 (by omega) _ _ _ ps .unset One.u hP X0 e0 N0 Z0 (Keep.refl h0 [r0]) E_0 F_bytes F_end F_position A_0
theorem d6_0 : decode method_2_code 0 = .ok (.iload_n 0, 1) := by decide +kernel
theorem d6_1 : decode method_2_code 1 = .ok (.sipush 128, 3) := by decide +kernel
theorem d6_4 : decode method_2_code 4 = .ok (.iand, 1) := by decide +kernel
theorem d6_5 : decode method_2_code 5 = .ok (.ifCond .ne 7, 3) := by decide +kernel
theorem d6_8 : decode method_2_code 8 = .ok (.iconst 1, 1) := by decide +kernel
theorem d6_9 : decode method_2_code 9 = .ok (.goto 4, 3) := by decide +kernel
theorem d6_12 : decode method_2_code 12 = .ok (.iconst 0, 1) := by decide +kernel
theorem d6_13 : decode method_2_code 13 = .ok (.ireturn, 1) := by decide +kernel
theorem pn_6 : plainName "com/example/weftline/weftline/runner/BodyMorePinLaw" = true := by first | (simp [plainName, overriddenIn]; done) | decide +kernel
theorem ef_6 (m : MethodId) (p0 : Int32) : entryFrame m #[(.int p0)] 1 = mkF m 0 #[.val (.int p0)] [] := by first | (simp [entryFrame, mkF, argsToLocals, Value.category]; done) | rfl
def f6_13 (p0 : Int32) : Int32 := (1 : Int32)
def f6_13b (p0 : Int32) : Int32 := (0 : Int32)
def f6_0 (p0 : Int32) : Int32 := (if (p0 &&& (128 : Int32)) = (0 : Int32) then f6_13 p0 else f6_13b p0)
def Q6 (Z : State) (p0 : Int32) (h0 : Heap) (n0 : Nat) (v : Option Value) (h : Heap) (L : List Loc) : Prop := v = some (.int (f6_0 p0)) ∧ Fr n0 L ∧ h = h0
set_option maxRecDepth 65536 in
set_option maxHeartbeats 40000000 in
theorem rm6 (l : Launch) (Z : State) (a0 : Array Value) (hw : ∀ d ∈ tables_1, d.before a0 Z = true) (ws : List Jvm.Cond) (p0 : Int32) (h0 : Heap) (n0 : Nat) :
    MetFree l (⟨"com/example/weftline/weftline/runner/BodyMorePinLaw", "clear", "(B)Z"⟩ : MethodName) (head1 (Jvm.Cond.code (⟨"com/example/weftline/weftline/runner/BodyMorePinLaw", "clear", "(B)Z"⟩ : MethodName) method_2_code 1 (some .boolean) :: ws) ({ frames := 0, cells := 0, slots := 0, locals := 0 } : Room)) (fun a U => a = #[(.int p0)] ∧ Z.Warmed39 U.vm ∧ U.heap = h0) (fun _ _ _ _ _ => True) (fun _ U o U' => ∃ v L, o = .returned v ∧ (Q6 Z p0 h0 n0) v U'.heap L ∧ FrameEnd U o U' L ({ frames := 0, cells := 0, slots := 0, locals := 0 } : Room).cells ({ frames := 0, cells := 0, slots := 0, locals := 0 } : Room).slots) := by
  refine MetFree.of_bodySF (plainFor_of_name pn_6) hisR ?_
  intro p e s m args below meth c s₁ Bd hml0 hP hK
  obtain ⟨rfl, hZ, hh⟩ := hP
  have hx := Bd.exec
  have hby := Bd.bytes
  have hret := Bd.returns
  have hlk := BodyLoose.notSynchronized Bd
  have hml : c.maxLocals = 1 := hml0
  have hown : s.vm.findClass "com/example/weftline/weftline/runner/BodyMorePinLaw" = some m.cls := findClass_of_methodNamed Bd.named
  have hnm := (name_of_methodNamed Bd.named Bd.method).1
  have X0 : Stand p l e ({ frames := 0, cells := 0, slots := 0, locals := 0 } : Room) s m #[(.int p0)] below meth c s₁ [] 0 0 := Stand.of_body Bd
  have e0 : s₁.heap = h0 := by rw [← hh, Bd.state]; rfl
  have N0 := Fr.nil n0
  show own_Ends p e below s ({ frames := 0, cells := 0, slots := 0, locals := 0 } : Room).cells ({ frames := 0, cells := 0, slots := 0, locals := 0 } : Room).slots (Q6 Z p0 h0 n0) (s₁.setTop (entryFrame m #[(.int p0)] 1))
  refine own_cast (ef_6 m p0) ?_
  have B6_13 (hF : f6_0 p0 = f6_13 p0) : own_Ends p e below s ({ frames := 0, cells := 0, slots := 0, locals := 0 } : Room).cells ({ frames := 0, cells := 0, slots := 0, locals := 0 } : Room).slots (Q6 Z p0 h0 n0) (s₁.setTop (mkF m 13 #[.val (.int p0)] [(.int (1 : Int32))])) := by
    show own_Ends p e below s _ _ _ (s₁.setTop (mkF m 13 #[.val (.int p0)] [(.int (1 : Int32))]))
    exact own_retN X0 hx hlk (t := .boolean) hret (by simp) (hb hby d6_13) (w := (1 : Int32)) (by decide) ⟨congrArg (fun w => some (Value.int w)) (Eq.symm hF), N0, e0⟩ (by decide) (by decide)
  have B6_13b (hF : f6_0 p0 = f6_13b p0) : own_Ends p e below s ({ frames := 0, cells := 0, slots := 0, locals := 0 } : Room).cells ({ frames := 0, cells := 0, slots := 0, locals := 0 } : Room).slots (Q6 Z p0 h0 n0) (s₁.setTop (mkF m 13 #[.val (.int p0)] [(.int (0 : Int32))])) := by
    show own_Ends p e below s _ _ _ (s₁.setTop (mkF m 13 #[.val (.int p0)] [(.int (0 : Int32))]))
    exact own_retN X0 hx hlk (t := .boolean) hret (by simp) (hb hby d6_13) (w := (0 : Int32)) (by decide) ⟨congrArg (fun w => some (Value.int w)) (Eq.symm hF), N0, e0⟩ (by decide) (by decide)
  show own_Ends p e below s _ _ _ (s₁.setTop (mkF m 0 #[.val (.int p0)] []))
  refine own_step (fun t k => XS.iloadN X0.here hx rfl (hb hby d6_0) rfl k) ?_
  show own_Ends p e below s _ _ _ (s₁.setTop (mkF m 1 #[.val (.int p0)] [(.int p0)]))
  refine own_step (fun t k => XS.sipush X0.here hx rfl (hb hby d6_1) k) ?_
  show own_Ends p e below s _ _ _ (s₁.setTop (mkF m 4 #[.val (.int p0)] [(.int (128 : Int32)), (.int p0)]))
  refine own_step (fun t k => XS.iand X0.here hx rfl (hb hby d6_4) rfl k) ?_
  show own_Ends p e below s _ _ _ (s₁.setTop (mkF m 5 #[.val (.int p0)] [(.int (p0 &&& (128 : Int32)))]))
  by_cases hc5_1 : (p0 &&& (128 : Int32)) = (0 : Int32)
  · -- (p0 &&& (128 : Int32)) = (0 : Int32)
    refine own_step (fun t k => XS.ifNo X0.here hx rfl (hb hby d6_5) rfl ((if0 _ _).trans (teq hc5_1).2) k) ?_
    show own_Ends p e below s _ _ _ (s₁.setTop (mkF m 8 #[.val (.int p0)] []))
    refine own_step (fun t k => XS.iconst X0.here hx rfl (hb hby d6_8) k) ?_
    show own_Ends p e below s _ _ _ (s₁.setTop (mkF m 9 #[.val (.int p0)] [(.int (1 : Int32))]))
    refine own_step (fun t k => XS.goto X0.here hx rfl (pc0 := 9) (pc' := 13) rfl (hb hby d6_9) (by decide) (by decide) k) ?_
    show own_Ends p e below s _ _ _ (s₁.setTop (mkF m 13 #[.val (.int p0)] [(.int (1 : Int32))]))
    exact B6_13 ((show f6_0 p0 = _ from rfl).trans (if_pos hc5_1))
  · -- not (p0 &&& (128 : Int32)) = (0 : Int32)
    refine own_step (fun t k => XS.ifYes X0.here hx rfl (pc0 := 5) (pc' := 12) rfl (hb hby d6_5) rfl ((if0 _ _).trans (feq hc5_1).2) (by decide) (by decide) k) ?_
    show own_Ends p e below s _ _ _ (s₁.setTop (mkF m 12 #[.val (.int p0)] []))
    refine own_step (fun t k => XS.iconst X0.here hx rfl (hb hby d6_12) k) ?_
    show own_Ends p e below s _ _ _ (s₁.setTop (mkF m 13 #[.val (.int p0)] [(.int (0 : Int32))]))
    exact B6_13b ((show f6_0 p0 = _ from rfl).trans (if_neg hc5_1))
theorem d4_0 : decode jdk_29_method_69_code 0 = .ok (.iload_n 0, 1) := by decide +kernel
theorem d4_1 : decode jdk_29_method_69_code 1 = .ok (.iload_n 1, 1) := by decide +kernel
theorem d4_2 : decode jdk_29_method_69_code 2 = .ok (.if_icmp .gt 7, 3) := by decide +kernel
theorem d4_5 : decode jdk_29_method_69_code 5 = .ok (.iload_n 0, 1) := by decide +kernel
theorem d4_6 : decode jdk_29_method_69_code 6 = .ok (.goto 4, 3) := by decide +kernel
theorem d4_9 : decode jdk_29_method_69_code 9 = .ok (.iload_n 1, 1) := by decide +kernel
theorem d4_10 : decode jdk_29_method_69_code 10 = .ok (.ireturn, 1) := by decide +kernel
theorem ef_4 (m : MethodId) (p0 : Int32) (p1 : Int32) : entryFrame m #[(.int p0), (.int p1)] 2 = mkF m 0 #[.val (.int p0), .val (.int p1)] [] := by first | (simp [entryFrame, mkF, argsToLocals, Value.category]; done) | rfl
def f4_10 (p0 : Int32) (p1 : Int32) : Int32 := p1
def f4_10b (p0 : Int32) (p1 : Int32) : Int32 := p0
def f4_0 (p0 : Int32) (p1 : Int32) : Int32 := (if p1 < p0 then f4_10 p0 p1 else f4_10b p0 p1)
def Q4 (Z : State) (p0 : Int32) (p1 : Int32) (h0 : Heap) (n0 : Nat) (v : Option Value) (h : Heap) (L : List Loc) : Prop := v = some (.int (f4_0 p0 p1)) ∧ Fr n0 L ∧ h = h0
set_option maxRecDepth 65536 in
set_option maxHeartbeats 40000000 in
theorem rm4 (l : Launch) (Z : State) (a0 : Array Value) (hw : ∀ d ∈ tables_1, d.before a0 Z = true) (ws : List Jvm.Cond) (p0 : Int32) (p1 : Int32) (h0 : Heap) (n0 : Nat) :
    MetFree l (⟨"java/lang/Math", "min", "(II)I"⟩ : MethodName) (head1 (Jvm.Cond.code (⟨"java/lang/Math", "min", "(II)I"⟩ : MethodName) jdk_29_method_69_code 2 (some .int) :: ws) ({ frames := 0, cells := 0, slots := 0, locals := 0 } : Room)) (fun a U => a = #[(.int p0), (.int p1)] ∧ Z.Warmed39 U.vm ∧ U.heap = h0) (fun _ _ _ _ _ => True) (fun _ U o U' => ∃ v L, o = .returned v ∧ (Q4 Z p0 p1 h0 n0) v U'.heap L ∧ FrameEnd U o U' L ({ frames := 0, cells := 0, slots := 0, locals := 0 } : Room).cells ({ frames := 0, cells := 0, slots := 0, locals := 0 } : Room).slots) := by
  refine MetFree.of_bodySF (Jvm.Free.JP.mathPlain rfl (by decide +kernel)) hisR ?_
  intro p e s m args below meth c s₁ Bd hml0 hP hK
  obtain ⟨rfl, hZ, hh⟩ := hP
  have hx := Bd.exec
  have hby := Bd.bytes
  have hret := Bd.returns
  have hlk := BodyLoose.notSynchronized Bd
  have hml : c.maxLocals = 2 := hml0
  have hown : s.vm.findClass "java/lang/Math" = some m.cls := findClass_of_methodNamed Bd.named
  have hnm := (name_of_methodNamed Bd.named Bd.method).1
  have X0 : Stand p l e ({ frames := 0, cells := 0, slots := 0, locals := 0 } : Room) s m #[(.int p0), (.int p1)] below meth c s₁ [] 0 0 := Stand.of_body Bd
  have e0 : s₁.heap = h0 := by rw [← hh, Bd.state]; rfl
  have N0 := Fr.nil n0
  show own_Ends p e below s ({ frames := 0, cells := 0, slots := 0, locals := 0 } : Room).cells ({ frames := 0, cells := 0, slots := 0, locals := 0 } : Room).slots (Q4 Z p0 p1 h0 n0) (s₁.setTop (entryFrame m #[(.int p0), (.int p1)] 2))
  refine own_cast (ef_4 m p0 p1) ?_
  have B4_10 (hF : f4_0 p0 p1 = f4_10 p0 p1) : own_Ends p e below s ({ frames := 0, cells := 0, slots := 0, locals := 0 } : Room).cells ({ frames := 0, cells := 0, slots := 0, locals := 0 } : Room).slots (Q4 Z p0 p1 h0 n0) (s₁.setTop (mkF m 10 #[.val (.int p0), .val (.int p1)] [(.int p1)])) := by
    show own_Ends p e below s _ _ _ (s₁.setTop (mkF m 10 #[.val (.int p0), .val (.int p1)] [(.int p1)]))
    exact own_retI X0 hx hlk hret (hb hby d4_10) ⟨congrArg (fun w => some (Value.int w)) (Eq.symm hF), N0, e0⟩ (by decide) (by decide)
  have B4_10b (hF : f4_0 p0 p1 = f4_10b p0 p1) : own_Ends p e below s ({ frames := 0, cells := 0, slots := 0, locals := 0 } : Room).cells ({ frames := 0, cells := 0, slots := 0, locals := 0 } : Room).slots (Q4 Z p0 p1 h0 n0) (s₁.setTop (mkF m 10 #[.val (.int p0), .val (.int p1)] [(.int p0)])) := by
    show own_Ends p e below s _ _ _ (s₁.setTop (mkF m 10 #[.val (.int p0), .val (.int p1)] [(.int p0)]))
    exact own_retI X0 hx hlk hret (hb hby d4_10) ⟨congrArg (fun w => some (Value.int w)) (Eq.symm hF), N0, e0⟩ (by decide) (by decide)
  show own_Ends p e below s _ _ _ (s₁.setTop (mkF m 0 #[.val (.int p0), .val (.int p1)] []))
  refine own_step (fun t k => XS.iloadN X0.here hx rfl (hb hby d4_0) rfl k) ?_
  show own_Ends p e below s _ _ _ (s₁.setTop (mkF m 1 #[.val (.int p0), .val (.int p1)] [(.int p0)]))
  refine own_step (fun t k => XS.iloadN X0.here hx rfl (hb hby d4_1) rfl k) ?_
  show own_Ends p e below s _ _ _ (s₁.setTop (mkF m 2 #[.val (.int p0), .val (.int p1)] [(.int p1), (.int p0)]))
  by_cases hc2_1 : p1 < p0
  · -- p1 < p0
    refine own_step (fun t k => XS.icmpYes X0.here hx rfl (pc0 := 2) (pc' := 9) rfl (hb hby d4_2) rfl (tlt hc2_1).2.2.1 (by decide) (by decide) k) ?_
    show own_Ends p e below s _ _ _ (s₁.setTop (mkF m 9 #[.val (.int p0), .val (.int p1)] []))
    refine own_step (fun t k => XS.iloadN X0.here hx rfl (hb hby d4_9) rfl k) ?_
    show own_Ends p e below s _ _ _ (s₁.setTop (mkF m 10 #[.val (.int p0), .val (.int p1)] [(.int p1)]))
    exact B4_10 ((show f4_0 p0 p1 = _ from rfl).trans (if_pos hc2_1))
  · -- not p1 < p0
    refine own_step (fun t k => XS.icmpNo X0.here hx rfl (hb hby d4_2) rfl (flt hc2_1).2.2.1 k) ?_
    show own_Ends p e below s _ _ _ (s₁.setTop (mkF m 5 #[.val (.int p0), .val (.int p1)] []))
    refine own_step (fun t k => XS.iloadN X0.here hx rfl (hb hby d4_5) rfl k) ?_
    show own_Ends p e below s _ _ _ (s₁.setTop (mkF m 6 #[.val (.int p0), .val (.int p1)] [(.int p0)]))
    refine own_step (fun t k => XS.goto X0.here hx rfl (pc0 := 6) (pc' := 10) rfl (hb hby d4_6) (by decide) (by decide) k) ?_
    show own_Ends p e below s _ _ _ (s₁.setTop (mkF m 10 #[.val (.int p0), .val (.int p1)] [(.int p0)]))
    exact B4_10b ((show f4_0 p0 p1 = _ from rfl).trans (if_neg hc2_1))
theorem d5_0 : decode method_3_code 0 = .ok (.iload_n 1, 1) := by decide +kernel
theorem d5_1 : decode method_3_code 1 = .ok (.ifCond .gt 18, 3) := by decide +kernel
theorem d5_4 : decode method_3_code 4 = .ok (.iload_n 2, 1) := by decide +kernel
theorem d5_5 : decode method_3_code 5 = .ok (.ifCond .le 14, 3) := by decide +kernel
theorem d5_8 : decode method_3_code 8 = .ok (.aload_n 0, 1) := by decide +kernel
theorem d5_9 : decode method_3_code 9 = .ok (.iconst 0, 1) := by decide +kernel
theorem d5_10 : decode method_3_code 10 = .ok (.baload, 1) := by decide +kernel
theorem d5_11 : decode method_3_code 11 = .ok (.invokestatic 7, 3) := by decide +kernel
theorem d5_14 : decode method_3_code 14 = .ok (.ifCond .eq 5, 3) := by decide +kernel
theorem d5_17 : decode method_3_code 17 = .ok (.iconst 1, 1) := by decide +kernel
theorem d5_18 : decode method_3_code 18 = .ok (.ireturn, 1) := by decide +kernel
theorem d5_19 : decode method_3_code 19 = .ok (.iload_n 1, 1) := by decide +kernel
theorem d5_20 : decode method_3_code 20 = .ok (.iconst 1, 1) := by decide +kernel
theorem d5_21 : decode method_3_code 21 = .ok (.if_icmp .gt 19, 3) := by decide +kernel
theorem d5_24 : decode method_3_code 24 = .ok (.iload_n 2, 1) := by decide +kernel
theorem d5_25 : decode method_3_code 25 = .ok (.iconst 1, 1) := by decide +kernel
theorem d5_26 : decode method_3_code 26 = .ok (.if_icmp .le 14, 3) := by decide +kernel
theorem d5_29 : decode method_3_code 29 = .ok (.aload_n 0, 1) := by decide +kernel
theorem d5_30 : decode method_3_code 30 = .ok (.iconst 1, 1) := by decide +kernel
theorem d5_31 : decode method_3_code 31 = .ok (.baload, 1) := by decide +kernel
theorem d5_32 : decode method_3_code 32 = .ok (.invokestatic 7, 3) := by decide +kernel
theorem d5_35 : decode method_3_code 35 = .ok (.ifCond .eq 5, 3) := by decide +kernel
theorem d5_38 : decode method_3_code 38 = .ok (.iconst 2, 1) := by decide +kernel
theorem d5_39 : decode method_3_code 39 = .ok (.ireturn, 1) := by decide +kernel
theorem d5_40 : decode method_3_code 40 = .ok (.iload_n 1, 1) := by decide +kernel
theorem d5_41 : decode method_3_code 41 = .ok (.iconst 2, 1) := by decide +kernel
theorem d5_42 : decode method_3_code 42 = .ok (.if_icmp .gt 19, 3) := by decide +kernel
theorem d5_45 : decode method_3_code 45 = .ok (.iload_n 2, 1) := by decide +kernel
theorem d5_46 : decode method_3_code 46 = .ok (.iconst 2, 1) := by decide +kernel
theorem d5_47 : decode method_3_code 47 = .ok (.if_icmp .le 14, 3) := by decide +kernel
theorem d5_50 : decode method_3_code 50 = .ok (.aload_n 0, 1) := by decide +kernel
theorem d5_51 : decode method_3_code 51 = .ok (.iconst 2, 1) := by decide +kernel
theorem d5_52 : decode method_3_code 52 = .ok (.baload, 1) := by decide +kernel
theorem d5_53 : decode method_3_code 53 = .ok (.invokestatic 7, 3) := by decide +kernel
theorem d5_56 : decode method_3_code 56 = .ok (.ifCond .eq 5, 3) := by decide +kernel
theorem d5_59 : decode method_3_code 59 = .ok (.iconst 3, 1) := by decide +kernel
theorem d5_60 : decode method_3_code 60 = .ok (.ireturn, 1) := by decide +kernel
theorem d5_61 : decode method_3_code 61 = .ok (.iload_n 1, 1) := by decide +kernel
theorem d5_62 : decode method_3_code 62 = .ok (.iconst 3, 1) := by decide +kernel
theorem d5_63 : decode method_3_code 63 = .ok (.if_icmp .gt 19, 3) := by decide +kernel
theorem d5_66 : decode method_3_code 66 = .ok (.iload_n 2, 1) := by decide +kernel
theorem d5_67 : decode method_3_code 67 = .ok (.iconst 3, 1) := by decide +kernel
theorem d5_68 : decode method_3_code 68 = .ok (.if_icmp .le 14, 3) := by decide +kernel
theorem d5_71 : decode method_3_code 71 = .ok (.aload_n 0, 1) := by decide +kernel
theorem d5_72 : decode method_3_code 72 = .ok (.iconst 3, 1) := by decide +kernel
theorem d5_73 : decode method_3_code 73 = .ok (.baload, 1) := by decide +kernel
theorem d5_74 : decode method_3_code 74 = .ok (.invokestatic 7, 3) := by decide +kernel
theorem d5_77 : decode method_3_code 77 = .ok (.ifCond .eq 5, 3) := by decide +kernel
theorem d5_80 : decode method_3_code 80 = .ok (.iconst 4, 1) := by decide +kernel
theorem d5_81 : decode method_3_code 81 = .ok (.ireturn, 1) := by decide +kernel
theorem d5_82 : decode method_3_code 82 = .ok (.iconst (-1), 1) := by decide +kernel
theorem d5_83 : decode method_3_code 83 = .ok (.ireturn, 1) := by decide +kernel
theorem pn_5 : plainName "com/example/weftline/weftline/runner/BodyMorePinLaw" = true := by first | (simp [plainName, overriddenIn]; done) | decide +kernel
theorem ef_5 (m : MethodId) (r0 : Addr) (p1 : Int32) (p2 : Int32) : entryFrame m #[(.ref r0), (.int p1), (.int p2)] 3 = mkF m 0 #[.val (.ref r0), .val (.int p1), .val (.int p2)] [] := by first | (simp [entryFrame, mkF, argsToLocals, Value.category]; done) | rfl
theorem pd5_0 : parseMethodDescriptor "(B)Z" = some ⟨[.byte], some .boolean⟩ := by decide +kernel
def own_g82 (f : Nat → Int32) (p1 p2 : Int32) : Int32 := (-1 : Int32)
set_option maxRecDepth 65536 in
set_option maxHeartbeats 40000000 in
theorem ja_82 {p : Program} {l : Launch} {e : Env} {s : State} {m : MethodId} {args : Array Value} {below : List Frame} {meth : Method} {c : Code} {T : State} {locs : List Loc} {Z : State} {a0 : Array Value} {hh : Heap} {n0 : Nat} (r0 : Addr) (p1 : Int32) (p2 : Int32) (f : Nat → Int32) (F : Int32)
    (X0 : Stand p l e ({ frames := 1, cells := 0, slots := 0, locals := 12 } : Room) s m args below meth c T locs 0 0) (hx : p.tables.exec = Jvm.exec) (hZ : Z.Warmed39 s.vm) (hw : ∀ d ∈ tables_1, d.before a0 Z = true) (hby : c.code = method_3_code) (hml : c.maxLocals = 3) (hown : s.vm.findClass "com/example/weftline/weftline/runner/BodyMorePinLaw" = some m.cls) (hret : meth.sig.returnType = some .int) (hlk : meth.locks = false) (e0 : T.heap = hh) (N0 : Fr n0 locs) (Z0 : n0 ≤ hh.size) (A_0 : own_AI Z hh r0 .byte 4 f) (hF : F = own_g82 f p1 p2) :
    own_Ends p e below s ({ frames := 1, cells := 0, slots := 0, locals := 12 } : Room).cells ({ frames := 1, cells := 0, slots := 0, locals := 12 } : Room).slots (fun v h L => v = some (.int F) ∧ Fr n0 L ∧ h = hh) (T.setTop (mkF m 82 #[.val (.ref r0), .val (.int p1), .val (.int p2)] [])) := by
  show own_Ends p e below s _ _ _ (T.setTop (mkF m 82 #[.val (.ref r0), .val (.int p1), .val (.int p2)] []))
  refine own_step (fun t k => XS.iconst X0.here hx rfl (hb hby d5_82) k) ?_
  show own_Ends p e below s _ _ _ (T.setTop (mkF m 83 #[.val (.ref r0), .val (.int p1), .val (.int p2)] [(.int (-1 : Int32))]))
  exact own_retI X0 hx hlk hret (hb hby d5_83) ⟨congrArg (fun w => some (Value.int w)) (Eq.symm hF), N0, e0⟩ (by decide) (by decide)
def own_g61 (f : Nat → Int32) (p1 p2 : Int32) : Int32 := (if (3 : Int32) < p1 then (own_g82 f p1 p2) else (if (3 : Int32) < p2 then (if (f6_0 (f 3)) = (0 : Int32) then (own_g82 f p1 p2) else (4 : Int32)) else (own_g82 f p1 p2)))
set_option maxRecDepth 65536 in
set_option maxHeartbeats 40000000 in
theorem ja_61 {p : Program} {l : Launch} {e : Env} {s : State} {m : MethodId} {args : Array Value} {below : List Frame} {meth : Method} {c : Code} {T : State} {locs : List Loc} {Z : State} {a0 : Array Value} {hh : Heap} {n0 : Nat} (r0 : Addr) (p1 : Int32) (p2 : Int32) (f : Nat → Int32) (F : Int32)
    (X0 : Stand p l e ({ frames := 1, cells := 0, slots := 0, locals := 12 } : Room) s m args below meth c T locs 0 0) (hx : p.tables.exec = Jvm.exec) (hZ : Z.Warmed39 s.vm) (hw : ∀ d ∈ tables_1, d.before a0 Z = true) (hby : c.code = method_3_code) (hml : c.maxLocals = 3) (hown : s.vm.findClass "com/example/weftline/weftline/runner/BodyMorePinLaw" = some m.cls) (hret : meth.sig.returnType = some .int) (hlk : meth.locks = false) (e0 : T.heap = hh) (N0 : Fr n0 locs) (Z0 : n0 ≤ hh.size) (A_0 : own_AI Z hh r0 .byte 4 f) (hF : F = own_g61 f p1 p2) :
    own_Ends p e below s ({ frames := 1, cells := 0, slots := 0, locals := 12 } : Room).cells ({ frames := 1, cells := 0, slots := 0, locals := 12 } : Room).slots (fun v h L => v = some (.int F) ∧ Fr n0 L ∧ h = hh) (T.setTop (mkF m 61 #[.val (.ref r0), .val (.int p1), .val (.int p2)] [])) := by
  show own_Ends p e below s _ _ _ (T.setTop (mkF m 61 #[.val (.ref r0), .val (.int p1), .val (.int p2)] []))
  refine own_step (fun t k => XS.iloadN X0.here hx rfl (hb hby d5_61) rfl k) ?_
  show own_Ends p e below s _ _ _ (T.setTop (mkF m 62 #[.val (.ref r0), .val (.int p1), .val (.int p2)] [(.int p1)]))
  refine own_step (fun t k => XS.iconst X0.here hx rfl (hb hby d5_62) k) ?_
  show own_Ends p e below s _ _ _ (T.setTop (mkF m 63 #[.val (.ref r0), .val (.int p1), .val (.int p2)] [(.int (3 : Int32)), (.int p1)]))
  by_cases hc63_501 : (3 : Int32) < p1
  · -- (3 : Int32) < p1
    refine own_step (fun t k => XS.icmpYes X0.here hx rfl (pc0 := 63) (pc' := 82) rfl (hb hby d5_63) rfl (tlt hc63_501).2.2.1 (by decide) (by decide) k) ?_
    show own_Ends p e below s _ _ _ (T.setTop (mkF m 82 #[.val (.ref r0), .val (.int p1), .val (.int p2)] []))
    exact ja_82 r0 p1 p2 f F X0 hx hZ hw hby hml hown hret hlk e0 N0 Z0 A_0 (hF.trans (if_pos hc63_501))
  · -- not (3 : Int32) < p1
    refine own_step (fun t k => XS.icmpNo X0.here hx rfl (hb hby d5_63) rfl (flt hc63_501).2.2.1 k) ?_
    show own_Ends p e below s _ _ _ (T.setTop (mkF m 66 #[.val (.ref r0), .val (.int p1), .val (.int p2)] []))
    refine own_step (fun t k => XS.iloadN X0.here hx rfl (hb hby d5_66) rfl k) ?_
    show own_Ends p e below s _ _ _ (T.setTop (mkF m 67 #[.val (.ref r0), .val (.int p1), .val (.int p2)] [(.int p2)]))
    refine own_step (fun t k => XS.iconst X0.here hx rfl (hb hby d5_67) k) ?_
    show own_Ends p e below s _ _ _ (T.setTop (mkF m 68 #[.val (.ref r0), .val (.int p1), .val (.int p2)] [(.int (3 : Int32)), (.int p2)]))
    by_cases hc68_502 : (3 : Int32) < p2
    · -- (3 : Int32) < p2
      refine own_step (fun t k => XS.icmpNo X0.here hx rfl (hb hby d5_68) rfl (tlt hc68_502).2.2.2 k) ?_
      show own_Ends p e below s _ _ _ (T.setTop (mkF m 71 #[.val (.ref r0), .val (.int p1), .val (.int p2)] []))
      refine own_step (fun t k => XS.aloadN X0.here hx rfl (hb hby d5_71) rfl rfl k) ?_
      show own_Ends p e below s _ _ _ (T.setTop (mkF m 72 #[.val (.ref r0), .val (.int p1), .val (.int p2)] [(.ref r0)]))
      refine own_step (fun t k => XS.iconst X0.here hx rfl (hb hby d5_72) k) ?_
      show own_Ends p e below s _ _ _ (T.setTop (mkF m 73 #[.val (.ref r0), .val (.int p1), .val (.int p2)] [(.int (3 : Int32)), (.ref r0)]))
      refine own_step (fun t k => own_ldB X0 hx hZ e0 A_0 3 (by decide) (by decide) (g := (mkF m 73 #[.val (.ref r0), .val (.int p1), .val (.int p2)] [(.int (3 : Int32)), (.ref r0)])) rfl rfl (hb hby d5_73) t k) ?_
      show own_Ends p e below s _ _ _ (T.setTop (mkF m 74 #[.val (.ref r0), .val (.int p1), .val (.int p2)] [(.int (f 3))]))
      obtain ⟨_, _, ⟨T503, L503, k503, n503⟩, -, X503, ⟨Lc503, hQ503, l503, y503, z503⟩, st503⟩ := Jvm.LawKit.callS X0 hx (y := (⟨"com/example/weftline/weftline/runner/BodyMorePinLaw", "clear", "(B)Z"⟩ : MethodName)) hown (mvT hZ (hw _ (List.mem_of_getElem? (i := 29) rfl))) (mvT hZ (hw _ (List.mem_of_getElem? (i := 30) rfl))) (mvT hZ (hw _ (List.mem_of_getElem? (i := 27) rfl))) (mvT hZ (hw _ (List.mem_of_getElem? (i := 31) rfl))) (by decide) (backOf (W := 0) (rm6 l Z a0 hw [] (f 3)  hh n0  ) hZ (hw _ (List.mem_of_getElem? (i := 31) rfl)) (hw _ (List.mem_of_getElem? (i := 27) rfl)) (by decide) (by decide)) (g := (mkF m 74 #[.val (.ref r0), .val (.int p1), .val (.int p2)] [(.int (f 3))])) rfl (by rw [hml]; rfl) (argsL := [(.int (f 3))]) (rest := []) (lenOf pd5_0 rfl) rfl (by show 2 * 0 + _ ≤ _; exact Nat.le_of_eq rfl) (hb hby d5_74) (fun _ _ => ⟨rfl, e0, (by decide : 0 + 0 ≤ _), (by decide : 0 + 0 ≤ _)⟩)
      dsimp only [Pt.U, Pt.locs, Pt.cells, Pt.slots] at X503 l503 y503 z503 st503 hQ503
      subst l503 y503 z503
      obtain ⟨rfl, N503q, e503⟩ := hQ503
      have N503 := Fr.app N0 N503q
      refine own_step st503 ?_
      show own_Ends p e below s _ _ _ (T503.setTop (mkF m 77 #[.val (.ref r0), .val (.int p1), .val (.int p2)] [(.int (f6_0 (f 3)))]))
      by_cases hc77_504 : (f6_0 (f 3)) = (0 : Int32)
      · -- (f6_0 (f 3)) = (0 : Int32)
        refine own_step (fun t k => XS.ifYes X503.here hx rfl (pc0 := 77) (pc' := 82) rfl (hb hby d5_77) rfl ((if0 _ _).trans (teq hc77_504).1) (by decide) (by decide) k) ?_
        show own_Ends p e below s _ _ _ (T503.setTop (mkF m 82 #[.val (.ref r0), .val (.int p1), .val (.int p2)] []))
        exact ja_82 r0 p1 p2 f F X503 hx hZ hw hby hml hown hret hlk e503 N503 Z0 A_0 (((hF.trans (if_neg hc63_501)).trans (if_pos hc68_502)).trans (if_pos hc77_504))
      · -- not (f6_0 (f 3)) = (0 : Int32)
        refine own_step (fun t k => XS.ifNo X503.here hx rfl (hb hby d5_77) rfl ((if0 _ _).trans (feq hc77_504).1) k) ?_
        show own_Ends p e below s _ _ _ (T503.setTop (mkF m 80 #[.val (.ref r0), .val (.int p1), .val (.int p2)] []))
        refine own_step (fun t k => XS.iconst X503.here hx rfl (hb hby d5_80) k) ?_
        show own_Ends p e below s _ _ _ (T503.setTop (mkF m 81 #[.val (.ref r0), .val (.int p1), .val (.int p2)] [(.int (4 : Int32))]))
        exact own_retI X503 hx hlk hret (hb hby d5_81) ⟨congrArg (fun w => some (Value.int w)) (Eq.symm (((hF.trans (if_neg hc63_501)).trans (if_pos hc68_502)).trans (if_neg hc77_504))), N503, e503⟩ (by decide) (by decide)
    · -- not (3 : Int32) < p2
      refine own_step (fun t k => XS.icmpYes X0.here hx rfl (pc0 := 68) (pc' := 82) rfl (hb hby d5_68) rfl (flt hc68_502).2.2.2 (by decide) (by decide) k) ?_
      show own_Ends p e below s _ _ _ (T.setTop (mkF m 82 #[.val (.ref r0), .val (.int p1), .val (.int p2)] []))
      exact ja_82 r0 p1 p2 f F X0 hx hZ hw hby hml hown hret hlk e0 N0 Z0 A_0 ((hF.trans (if_neg hc63_501)).trans (if_neg hc68_502))
def own_g40 (f : Nat → Int32) (p1 p2 : Int32) : Int32 := (if (2 : Int32) < p1 then (own_g61 f p1 p2) else (if (2 : Int32) < p2 then (if (f6_0 (f 2)) = (0 : Int32) then (own_g61 f p1 p2) else (3 : Int32)) else (own_g61 f p1 p2)))
set_option maxRecDepth 65536 in
set_option maxHeartbeats 40000000 in
theorem ja_40 {p : Program} {l : Launch} {e : Env} {s : State} {m : MethodId} {args : Array Value} {below : List Frame} {meth : Method} {c : Code} {T : State} {locs : List Loc} {Z : State} {a0 : Array Value} {hh : Heap} {n0 : Nat} (r0 : Addr) (p1 : Int32) (p2 : Int32) (f : Nat → Int32) (F : Int32)
    (X0 : Stand p l e ({ frames := 1, cells := 0, slots := 0, locals := 12 } : Room) s m args below meth c T locs 0 0) (hx : p.tables.exec = Jvm.exec) (hZ : Z.Warmed39 s.vm) (hw : ∀ d ∈ tables_1, d.before a0 Z = true) (hby : c.code = method_3_code) (hml : c.maxLocals = 3) (hown : s.vm.findClass "com/example/weftline/weftline/runner/BodyMorePinLaw" = some m.cls) (hret : meth.sig.returnType = some .int) (hlk : meth.locks = false) (e0 : T.heap = hh) (N0 : Fr n0 locs) (Z0 : n0 ≤ hh.size) (A_0 : own_AI Z hh r0 .byte 4 f) (hF : F = own_g40 f p1 p2) :
    own_Ends p e below s ({ frames := 1, cells := 0, slots := 0, locals := 12 } : Room).cells ({ frames := 1, cells := 0, slots := 0, locals := 12 } : Room).slots (fun v h L => v = some (.int F) ∧ Fr n0 L ∧ h = hh) (T.setTop (mkF m 40 #[.val (.ref r0), .val (.int p1), .val (.int p2)] [])) := by
  show own_Ends p e below s _ _ _ (T.setTop (mkF m 40 #[.val (.ref r0), .val (.int p1), .val (.int p2)] []))
  refine own_step (fun t k => XS.iloadN X0.here hx rfl (hb hby d5_40) rfl k) ?_
  show own_Ends p e below s _ _ _ (T.setTop (mkF m 41 #[.val (.ref r0), .val (.int p1), .val (.int p2)] [(.int p1)]))
  refine own_step (fun t k => XS.iconst X0.here hx rfl (hb hby d5_41) k) ?_
  show own_Ends p e below s _ _ _ (T.setTop (mkF m 42 #[.val (.ref r0), .val (.int p1), .val (.int p2)] [(.int (2 : Int32)), (.int p1)]))
  by_cases hc42_501 : (2 : Int32) < p1
  · -- (2 : Int32) < p1
    refine own_step (fun t k => XS.icmpYes X0.here hx rfl (pc0 := 42) (pc' := 61) rfl (hb hby d5_42) rfl (tlt hc42_501).2.2.1 (by decide) (by decide) k) ?_
    show own_Ends p e below s _ _ _ (T.setTop (mkF m 61 #[.val (.ref r0), .val (.int p1), .val (.int p2)] []))
    exact ja_61 r0 p1 p2 f F X0 hx hZ hw hby hml hown hret hlk e0 N0 Z0 A_0 (hF.trans (if_pos hc42_501))
  · -- not (2 : Int32) < p1
    refine own_step (fun t k => XS.icmpNo X0.here hx rfl (hb hby d5_42) rfl (flt hc42_501).2.2.1 k) ?_
    show own_Ends p e below s _ _ _ (T.setTop (mkF m 45 #[.val (.ref r0), .val (.int p1), .val (.int p2)] []))
    refine own_step (fun t k => XS.iloadN X0.here hx rfl (hb hby d5_45) rfl k) ?_
    show own_Ends p e below s _ _ _ (T.setTop (mkF m 46 #[.val (.ref r0), .val (.int p1), .val (.int p2)] [(.int p2)]))
    refine own_step (fun t k => XS.iconst X0.here hx rfl (hb hby d5_46) k) ?_
    show own_Ends p e below s _ _ _ (T.setTop (mkF m 47 #[.val (.ref r0), .val (.int p1), .val (.int p2)] [(.int (2 : Int32)), (.int p2)]))
    by_cases hc47_502 : (2 : Int32) < p2
    · -- (2 : Int32) < p2
      refine own_step (fun t k => XS.icmpNo X0.here hx rfl (hb hby d5_47) rfl (tlt hc47_502).2.2.2 k) ?_
      show own_Ends p e below s _ _ _ (T.setTop (mkF m 50 #[.val (.ref r0), .val (.int p1), .val (.int p2)] []))
      refine own_step (fun t k => XS.aloadN X0.here hx rfl (hb hby d5_50) rfl rfl k) ?_
      show own_Ends p e below s _ _ _ (T.setTop (mkF m 51 #[.val (.ref r0), .val (.int p1), .val (.int p2)] [(.ref r0)]))
      refine own_step (fun t k => XS.iconst X0.here hx rfl (hb hby d5_51) k) ?_
      show own_Ends p e below s _ _ _ (T.setTop (mkF m 52 #[.val (.ref r0), .val (.int p1), .val (.int p2)] [(.int (2 : Int32)), (.ref r0)]))
      refine own_step (fun t k => own_ldB X0 hx hZ e0 A_0 2 (by decide) (by decide) (g := (mkF m 52 #[.val (.ref r0), .val (.int p1), .val (.int p2)] [(.int (2 : Int32)), (.ref r0)])) rfl rfl (hb hby d5_52) t k) ?_
      show own_Ends p e below s _ _ _ (T.setTop (mkF m 53 #[.val (.ref r0), .val (.int p1), .val (.int p2)] [(.int (f 2))]))
      obtain ⟨_, _, ⟨T503, L503, k503, n503⟩, -, X503, ⟨Lc503, hQ503, l503, y503, z503⟩, st503⟩ := Jvm.LawKit.callS X0 hx (y := (⟨"com/example/weftline/weftline/runner/BodyMorePinLaw", "clear", "(B)Z"⟩ : MethodName)) hown (mvT hZ (hw _ (List.mem_of_getElem? (i := 29) rfl))) (mvT hZ (hw _ (List.mem_of_getElem? (i := 30) rfl))) (mvT hZ (hw _ (List.mem_of_getElem? (i := 27) rfl))) (mvT hZ (hw _ (List.mem_of_getElem? (i := 31) rfl))) (by decide) (backOf (W := 0) (rm6 l Z a0 hw [] (f 2)  hh n0  ) hZ (hw _ (List.mem_of_getElem? (i := 31) rfl)) (hw _ (List.mem_of_getElem? (i := 27) rfl)) (by decide) (by decide)) (g := (mkF m 53 #[.val (.ref r0), .val (.int p1), .val (.int p2)] [(.int (f 2))])) rfl (by rw [hml]; rfl) (argsL := [(.int (f 2))]) (rest := []) (lenOf pd5_0 rfl) rfl (by show 2 * 0 + _ ≤ _; exact Nat.le_of_eq rfl) (hb hby d5_53) (fun _ _ => ⟨rfl, e0, (by decide : 0 + 0 ≤ _), (by decide : 0 + 0 ≤ _)⟩)
      dsimp only [Pt.U, Pt.locs, Pt.cells, Pt.slots] at X503 l503 y503 z503 st503 hQ503
      subst l503 y503 z503
      obtain ⟨rfl, N503q, e503⟩ := hQ503
      have N503 := Fr.app N0 N503q
      refine own_step st503 ?_
      show own_Ends p e below s _ _ _ (T503.setTop (mkF m 56 #[.val (.ref r0), .val (.int p1), .val (.int p2)] [(.int (f6_0 (f 2)))]))
      by_cases hc56_504 : (f6_0 (f 2)) = (0 : Int32)
      · -- (f6_0 (f 2)) = (0 : Int32)
        refine own_step (fun t k => XS.ifYes X503.here hx rfl (pc0 := 56) (pc' := 61) rfl (hb hby d5_56) rfl ((if0 _ _).trans (teq hc56_504).1) (by decide) (by decide) k) ?_
        show own_Ends p e below s _ _ _ (T503.setTop (mkF m 61 #[.val (.ref r0), .val (.int p1), .val (.int p2)] []))
        exact ja_61 r0 p1 p2 f F X503 hx hZ hw hby hml hown hret hlk e503 N503 Z0 A_0 (((hF.trans (if_neg hc42_501)).trans (if_pos hc47_502)).trans (if_pos hc56_504))
      · -- not (f6_0 (f 2)) = (0 : Int32)
        refine own_step (fun t k => XS.ifNo X503.here hx rfl (hb hby d5_56) rfl ((if0 _ _).trans (feq hc56_504).1) k) ?_
        show own_Ends p e below s _ _ _ (T503.setTop (mkF m 59 #[.val (.ref r0), .val (.int p1), .val (.int p2)] []))
        refine own_step (fun t k => XS.iconst X503.here hx rfl (hb hby d5_59) k) ?_
        show own_Ends p e below s _ _ _ (T503.setTop (mkF m 60 #[.val (.ref r0), .val (.int p1), .val (.int p2)] [(.int (3 : Int32))]))
        exact own_retI X503 hx hlk hret (hb hby d5_60) ⟨congrArg (fun w => some (Value.int w)) (Eq.symm (((hF.trans (if_neg hc42_501)).trans (if_pos hc47_502)).trans (if_neg hc56_504))), N503, e503⟩ (by decide) (by decide)
    · -- not (2 : Int32) < p2
      refine own_step (fun t k => XS.icmpYes X0.here hx rfl (pc0 := 47) (pc' := 61) rfl (hb hby d5_47) rfl (flt hc47_502).2.2.2 (by decide) (by decide) k) ?_
      show own_Ends p e below s _ _ _ (T.setTop (mkF m 61 #[.val (.ref r0), .val (.int p1), .val (.int p2)] []))
      exact ja_61 r0 p1 p2 f F X0 hx hZ hw hby hml hown hret hlk e0 N0 Z0 A_0 ((hF.trans (if_neg hc42_501)).trans (if_neg hc47_502))
def own_g19 (f : Nat → Int32) (p1 p2 : Int32) : Int32 := (if (1 : Int32) < p1 then (own_g40 f p1 p2) else (if (1 : Int32) < p2 then (if (f6_0 (f 1)) = (0 : Int32) then (own_g40 f p1 p2) else (2 : Int32)) else (own_g40 f p1 p2)))
set_option maxRecDepth 65536 in
set_option maxHeartbeats 40000000 in
theorem ja_19 {p : Program} {l : Launch} {e : Env} {s : State} {m : MethodId} {args : Array Value} {below : List Frame} {meth : Method} {c : Code} {T : State} {locs : List Loc} {Z : State} {a0 : Array Value} {hh : Heap} {n0 : Nat} (r0 : Addr) (p1 : Int32) (p2 : Int32) (f : Nat → Int32) (F : Int32)
    (X0 : Stand p l e ({ frames := 1, cells := 0, slots := 0, locals := 12 } : Room) s m args below meth c T locs 0 0) (hx : p.tables.exec = Jvm.exec) (hZ : Z.Warmed39 s.vm) (hw : ∀ d ∈ tables_1, d.before a0 Z = true) (hby : c.code = method_3_code) (hml : c.maxLocals = 3) (hown : s.vm.findClass "com/example/weftline/weftline/runner/BodyMorePinLaw" = some m.cls) (hret : meth.sig.returnType = some .int) (hlk : meth.locks = false) (e0 : T.heap = hh) (N0 : Fr n0 locs) (Z0 : n0 ≤ hh.size) (A_0 : own_AI Z hh r0 .byte 4 f) (hF : F = own_g19 f p1 p2) :
    own_Ends p e below s ({ frames := 1, cells := 0, slots := 0, locals := 12 } : Room).cells ({ frames := 1, cells := 0, slots := 0, locals := 12 } : Room).slots (fun v h L => v = some (.int F) ∧ Fr n0 L ∧ h = hh) (T.setTop (mkF m 19 #[.val (.ref r0), .val (.int p1), .val (.int p2)] [])) := by
  show own_Ends p e below s _ _ _ (T.setTop (mkF m 19 #[.val (.ref r0), .val (.int p1), .val (.int p2)] []))
  refine own_step (fun t k => XS.iloadN X0.here hx rfl (hb hby d5_19) rfl k) ?_
  show own_Ends p e below s _ _ _ (T.setTop (mkF m 20 #[.val (.ref r0), .val (.int p1), .val (.int p2)] [(.int p1)]))
  refine own_step (fun t k => XS.iconst X0.here hx rfl (hb hby d5_20) k) ?_
  show own_Ends p e below s _ _ _ (T.setTop (mkF m 21 #[.val (.ref r0), .val (.int p1), .val (.int p2)] [(.int (1 : Int32)), (.int p1)]))
  by_cases hc21_501 : (1 : Int32) < p1
  · -- (1 : Int32) < p1
    refine own_step (fun t k => XS.icmpYes X0.here hx rfl (pc0 := 21) (pc' := 40) rfl (hb hby d5_21) rfl (tlt hc21_501).2.2.1 (by decide) (by decide) k) ?_
    show own_Ends p e below s _ _ _ (T.setTop (mkF m 40 #[.val (.ref r0), .val (.int p1), .val (.int p2)] []))
    exact ja_40 r0 p1 p2 f F X0 hx hZ hw hby hml hown hret hlk e0 N0 Z0 A_0 (hF.trans (if_pos hc21_501))
  · -- not (1 : Int32) < p1
    refine own_step (fun t k => XS.icmpNo X0.here hx rfl (hb hby d5_21) rfl (flt hc21_501).2.2.1 k) ?_
    show own_Ends p e below s _ _ _ (T.setTop (mkF m 24 #[.val (.ref r0), .val (.int p1), .val (.int p2)] []))
    refine own_step (fun t k => XS.iloadN X0.here hx rfl (hb hby d5_24) rfl k) ?_
    show own_Ends p e below s _ _ _ (T.setTop (mkF m 25 #[.val (.ref r0), .val (.int p1), .val (.int p2)] [(.int p2)]))
    refine own_step (fun t k => XS.iconst X0.here hx rfl (hb hby d5_25) k) ?_
    show own_Ends p e below s _ _ _ (T.setTop (mkF m 26 #[.val (.ref r0), .val (.int p1), .val (.int p2)] [(.int (1 : Int32)), (.int p2)]))
    by_cases hc26_502 : (1 : Int32) < p2
    · -- (1 : Int32) < p2
      refine own_step (fun t k => XS.icmpNo X0.here hx rfl (hb hby d5_26) rfl (tlt hc26_502).2.2.2 k) ?_
      show own_Ends p e below s _ _ _ (T.setTop (mkF m 29 #[.val (.ref r0), .val (.int p1), .val (.int p2)] []))
      refine own_step (fun t k => XS.aloadN X0.here hx rfl (hb hby d5_29) rfl rfl k) ?_
      show own_Ends p e below s _ _ _ (T.setTop (mkF m 30 #[.val (.ref r0), .val (.int p1), .val (.int p2)] [(.ref r0)]))
      refine own_step (fun t k => XS.iconst X0.here hx rfl (hb hby d5_30) k) ?_
      show own_Ends p e below s _ _ _ (T.setTop (mkF m 31 #[.val (.ref r0), .val (.int p1), .val (.int p2)] [(.int (1 : Int32)), (.ref r0)]))
      refine own_step (fun t k => own_ldB X0 hx hZ e0 A_0 1 (by decide) (by decide) (g := (mkF m 31 #[.val (.ref r0), .val (.int p1), .val (.int p2)] [(.int (1 : Int32)), (.ref r0)])) rfl rfl (hb hby d5_31) t k) ?_
      show own_Ends p e below s _ _ _ (T.setTop (mkF m 32 #[.val (.ref r0), .val (.int p1), .val (.int p2)] [(.int (f 1))]))
      obtain ⟨_, _, ⟨T503, L503, k503, n503⟩, -, X503, ⟨Lc503, hQ503, l503, y503, z503⟩, st503⟩ := Jvm.LawKit.callS X0 hx (y := (⟨"com/example/weftline/weftline/runner/BodyMorePinLaw", "clear", "(B)Z"⟩ : MethodName)) hown (mvT hZ (hw _ (List.mem_of_getElem? (i := 29) rfl))) (mvT hZ (hw _ (List.mem_of_getElem? (i := 30) rfl))) (mvT hZ (hw _ (List.mem_of_getElem? (i := 27) rfl))) (mvT hZ (hw _ (List.mem_of_getElem? (i := 31) rfl))) (by decide) (backOf (W := 0) (rm6 l Z a0 hw [] (f 1)  hh n0  ) hZ (hw _ (List.mem_of_getElem? (i := 31) rfl)) (hw _ (List.mem_of_getElem? (i := 27) rfl)) (by decide) (by decide)) (g := (mkF m 32 #[.val (.ref r0), .val (.int p1), .val (.int p2)] [(.int (f 1))])) rfl (by rw [hml]; rfl) (argsL := [(.int (f 1))]) (rest := []) (lenOf pd5_0 rfl) rfl (by show 2 * 0 + _ ≤ _; exact Nat.le_of_eq rfl) (hb hby d5_32) (fun _ _ => ⟨rfl, e0, (by decide : 0 + 0 ≤ _), (by decide : 0 + 0 ≤ _)⟩)
      dsimp only [Pt.U, Pt.locs, Pt.cells, Pt.slots] at X503 l503 y503 z503 st503 hQ503
      subst l503 y503 z503
      obtain ⟨rfl, N503q, e503⟩ := hQ503
      have N503 := Fr.app N0 N503q
      refine own_step st503 ?_
      show own_Ends p e below s _ _ _ (T503.setTop (mkF m 35 #[.val (.ref r0), .val (.int p1), .val (.int p2)] [(.int (f6_0 (f 1)))]))
      by_cases hc35_504 : (f6_0 (f 1)) = (0 : Int32)
      · -- (f6_0 (f 1)) = (0 : Int32)
        refine own_step (fun t k => XS.ifYes X503.here hx rfl (pc0 := 35) (pc' := 40) rfl (hb hby d5_35) rfl ((if0 _ _).trans (teq hc35_504).1) (by decide) (by decide) k) ?_
        show own_Ends p e below s _ _ _ (T503.setTop (mkF m 40 #[.val (.ref r0), .val (.int p1), .val (.int p2)] []))
        exact ja_40 r0 p1 p2 f F X503 hx hZ hw hby hml hown hret hlk e503 N503 Z0 A_0 (((hF.trans (if_neg hc21_501)).trans (if_pos hc26_502)).trans (if_pos hc35_504))
      · -- not (f6_0 (f 1)) = (0 : Int32)
        refine own_step (fun t k => XS.ifNo X503.here hx rfl (hb hby d5_35) rfl ((if0 _ _).trans (feq hc35_504).1) k) ?_
        show own_Ends p e below s _ _ _ (T503.setTop (mkF m 38 #[.val (.ref r0), .val (.int p1), .val (.int p2)] []))
        refine own_step (fun t k => XS.iconst X503.here hx rfl (hb hby d5_38) k) ?_
        show own_Ends p e below s _ _ _ (T503.setTop (mkF m 39 #[.val (.ref r0), .val (.int p1), .val (.int p2)] [(.int (2 : Int32))]))
        exact own_retI X503 hx hlk hret (hb hby d5_39) ⟨congrArg (fun w => some (Value.int w)) (Eq.symm (((hF.trans (if_neg hc21_501)).trans (if_pos hc26_502)).trans (if_neg hc35_504))), N503, e503⟩ (by decide) (by decide)
    · -- not (1 : Int32) < p2
      refine own_step (fun t k => XS.icmpYes X0.here hx rfl (pc0 := 26) (pc' := 40) rfl (hb hby d5_26) rfl (flt hc26_502).2.2.2 (by decide) (by decide) k) ?_
      show own_Ends p e below s _ _ _ (T.setTop (mkF m 40 #[.val (.ref r0), .val (.int p1), .val (.int p2)] []))
      exact ja_40 r0 p1 p2 f F X0 hx hZ hw hby hml hown hret hlk e0 N0 Z0 A_0 ((hF.trans (if_neg hc21_501)).trans (if_neg hc26_502))
def own_g0 (f : Nat → Int32) (p1 p2 : Int32) : Int32 := (if (0 : Int32) < p1 then (own_g19 f p1 p2) else (if (0 : Int32) < p2 then (if (f6_0 (f 0)) = (0 : Int32) then (own_g19 f p1 p2) else (1 : Int32)) else (own_g19 f p1 p2)))
set_option maxRecDepth 65536 in
set_option maxHeartbeats 40000000 in
theorem ja_0 {p : Program} {l : Launch} {e : Env} {s : State} {m : MethodId} {args : Array Value} {below : List Frame} {meth : Method} {c : Code} {T : State} {locs : List Loc} {Z : State} {a0 : Array Value} {hh : Heap} {n0 : Nat} (r0 : Addr) (p1 : Int32) (p2 : Int32) (f : Nat → Int32) (F : Int32)
    (X0 : Stand p l e ({ frames := 1, cells := 0, slots := 0, locals := 12 } : Room) s m args below meth c T locs 0 0) (hx : p.tables.exec = Jvm.exec) (hZ : Z.Warmed39 s.vm) (hw : ∀ d ∈ tables_1, d.before a0 Z = true) (hby : c.code = method_3_code) (hml : c.maxLocals = 3) (hown : s.vm.findClass "com/example/weftline/weftline/runner/BodyMorePinLaw" = some m.cls) (hret : meth.sig.returnType = some .int) (hlk : meth.locks = false) (e0 : T.heap = hh) (N0 : Fr n0 locs) (Z0 : n0 ≤ hh.size) (A_0 : own_AI Z hh r0 .byte 4 f) (hF : F = own_g0 f p1 p2) :
    own_Ends p e below s ({ frames := 1, cells := 0, slots := 0, locals := 12 } : Room).cells ({ frames := 1, cells := 0, slots := 0, locals := 12 } : Room).slots (fun v h L => v = some (.int F) ∧ Fr n0 L ∧ h = hh) (T.setTop (mkF m 0 #[.val (.ref r0), .val (.int p1), .val (.int p2)] [])) := by
  show own_Ends p e below s _ _ _ (T.setTop (mkF m 0 #[.val (.ref r0), .val (.int p1), .val (.int p2)] []))
  refine own_step (fun t k => XS.iloadN X0.here hx rfl (hb hby d5_0) rfl k) ?_
  show own_Ends p e below s _ _ _ (T.setTop (mkF m 1 #[.val (.ref r0), .val (.int p1), .val (.int p2)] [(.int p1)]))
  by_cases hc1_501 : (0 : Int32) < p1
  · -- (0 : Int32) < p1
    refine own_step (fun t k => XS.ifYes X0.here hx rfl (pc0 := 1) (pc' := 19) rfl (hb hby d5_1) rfl ((if0 _ _).trans (tlt hc1_501).2.2.1) (by decide) (by decide) k) ?_
    show own_Ends p e below s _ _ _ (T.setTop (mkF m 19 #[.val (.ref r0), .val (.int p1), .val (.int p2)] []))
    exact ja_19 r0 p1 p2 f F X0 hx hZ hw hby hml hown hret hlk e0 N0 Z0 A_0 (hF.trans (if_pos hc1_501))
  · -- not (0 : Int32) < p1
    refine own_step (fun t k => XS.ifNo X0.here hx rfl (hb hby d5_1) rfl ((if0 _ _).trans (flt hc1_501).2.2.1) k) ?_
    show own_Ends p e below s _ _ _ (T.setTop (mkF m 4 #[.val (.ref r0), .val (.int p1), .val (.int p2)] []))
    refine own_step (fun t k => XS.iloadN X0.here hx rfl (hb hby d5_4) rfl k) ?_
    show own_Ends p e below s _ _ _ (T.setTop (mkF m 5 #[.val (.ref r0), .val (.int p1), .val (.int p2)] [(.int p2)]))
    by_cases hc5_502 : (0 : Int32) < p2
    · -- (0 : Int32) < p2
      refine own_step (fun t k => XS.ifNo X0.here hx rfl (hb hby d5_5) rfl ((if0 _ _).trans (tlt hc5_502).2.2.2) k) ?_
      show own_Ends p e below s _ _ _ (T.setTop (mkF m 8 #[.val (.ref r0), .val (.int p1), .val (.int p2)] []))
      refine own_step (fun t k => XS.aloadN X0.here hx rfl (hb hby d5_8) rfl rfl k) ?_
      show own_Ends p e below s _ _ _ (T.setTop (mkF m 9 #[.val (.ref r0), .val (.int p1), .val (.int p2)] [(.ref r0)]))
      refine own_step (fun t k => XS.iconst X0.here hx rfl (hb hby d5_9) k) ?_
      show own_Ends p e below s _ _ _ (T.setTop (mkF m 10 #[.val (.ref r0), .val (.int p1), .val (.int p2)] [(.int (0 : Int32)), (.ref r0)]))
      refine own_step (fun t k => own_ldB X0 hx hZ e0 A_0 0 (by decide) (by decide) (g := (mkF m 10 #[.val (.ref r0), .val (.int p1), .val (.int p2)] [(.int (0 : Int32)), (.ref r0)])) rfl rfl (hb hby d5_10) t k) ?_
      show own_Ends p e below s _ _ _ (T.setTop (mkF m 11 #[.val (.ref r0), .val (.int p1), .val (.int p2)] [(.int (f 0))]))
      obtain ⟨_, _, ⟨T503, L503, k503, n503⟩, -, X503, ⟨Lc503, hQ503, l503, y503, z503⟩, st503⟩ := Jvm.LawKit.callS X0 hx (y := (⟨"com/example/weftline/weftline/runner/BodyMorePinLaw", "clear", "(B)Z"⟩ : MethodName)) hown (mvT hZ (hw _ (List.mem_of_getElem? (i := 29) rfl))) (mvT hZ (hw _ (List.mem_of_getElem? (i := 30) rfl))) (mvT hZ (hw _ (List.mem_of_getElem? (i := 27) rfl))) (mvT hZ (hw _ (List.mem_of_getElem? (i := 31) rfl))) (by decide) (backOf (W := 0) (rm6 l Z a0 hw [] (f 0)  hh n0  ) hZ (hw _ (List.mem_of_getElem? (i := 31) rfl)) (hw _ (List.mem_of_getElem? (i := 27) rfl)) (by decide) (by decide)) (g := (mkF m 11 #[.val (.ref r0), .val (.int p1), .val (.int p2)] [(.int (f 0))])) rfl (by rw [hml]; rfl) (argsL := [(.int (f 0))]) (rest := []) (lenOf pd5_0 rfl) rfl (by show 2 * 0 + _ ≤ _; exact Nat.le_of_eq rfl) (hb hby d5_11) (fun _ _ => ⟨rfl, e0, (by decide : 0 + 0 ≤ _), (by decide : 0 + 0 ≤ _)⟩)
      dsimp only [Pt.U, Pt.locs, Pt.cells, Pt.slots] at X503 l503 y503 z503 st503 hQ503
      subst l503 y503 z503
      obtain ⟨rfl, N503q, e503⟩ := hQ503
      have N503 := Fr.app N0 N503q
      refine own_step st503 ?_
      show own_Ends p e below s _ _ _ (T503.setTop (mkF m 14 #[.val (.ref r0), .val (.int p1), .val (.int p2)] [(.int (f6_0 (f 0)))]))
      by_cases hc14_504 : (f6_0 (f 0)) = (0 : Int32)
      · -- (f6_0 (f 0)) = (0 : Int32)
        refine own_step (fun t k => XS.ifYes X503.here hx rfl (pc0 := 14) (pc' := 19) rfl (hb hby d5_14) rfl ((if0 _ _).trans (teq hc14_504).1) (by decide) (by decide) k) ?_
        show own_Ends p e below s _ _ _ (T503.setTop (mkF m 19 #[.val (.ref r0), .val (.int p1), .val (.int p2)] []))
        exact ja_19 r0 p1 p2 f F X503 hx hZ hw hby hml hown hret hlk e503 N503 Z0 A_0 (((hF.trans (if_neg hc1_501)).trans (if_pos hc5_502)).trans (if_pos hc14_504))
      · -- not (f6_0 (f 0)) = (0 : Int32)
        refine own_step (fun t k => XS.ifNo X503.here hx rfl (hb hby d5_14) rfl ((if0 _ _).trans (feq hc14_504).1) k) ?_
        show own_Ends p e below s _ _ _ (T503.setTop (mkF m 17 #[.val (.ref r0), .val (.int p1), .val (.int p2)] []))
        refine own_step (fun t k => XS.iconst X503.here hx rfl (hb hby d5_17) k) ?_
        show own_Ends p e below s _ _ _ (T503.setTop (mkF m 18 #[.val (.ref r0), .val (.int p1), .val (.int p2)] [(.int (1 : Int32))]))
        exact own_retI X503 hx hlk hret (hb hby d5_18) ⟨congrArg (fun w => some (Value.int w)) (Eq.symm (((hF.trans (if_neg hc1_501)).trans (if_pos hc5_502)).trans (if_neg hc14_504))), N503, e503⟩ (by decide) (by decide)
    · -- not (0 : Int32) < p2
      refine own_step (fun t k => XS.ifYes X0.here hx rfl (pc0 := 5) (pc' := 19) rfl (hb hby d5_5) rfl ((if0 _ _).trans (flt hc5_502).2.2.2) (by decide) (by decide) k) ?_
      show own_Ends p e below s _ _ _ (T.setTop (mkF m 19 #[.val (.ref r0), .val (.int p1), .val (.int p2)] []))
      exact ja_19 r0 p1 p2 f F X0 hx hZ hw hby hml hown hret hlk e0 N0 Z0 A_0 ((hF.trans (if_neg hc1_501)).trans (if_neg hc5_502))
def Q5 (Z : State) (f : Nat → Int32) (p1 p2 : Int32) (h0 : Heap) (n0 : Nat) (v : Option Value) (h : Heap) (L : List Loc) : Prop := v = some (.int (own_g0 f p1 p2)) ∧ Fr n0 L ∧ h = h0
set_option maxRecDepth 65536 in
set_option maxHeartbeats 40000000 in
theorem rm5 (l : Launch) (Z : State) (a0 : Array Value) (hw : ∀ d ∈ tables_1, d.before a0 Z = true) (ws : List Jvm.Cond) (r0 : Addr) (p1 p2 : Int32) (f : Nat → Int32) (h0 : Heap) (n0 : Nat) (Z0 : n0 ≤ h0.size) (A_0 : own_AI Z h0 r0 .byte 4 f) :
    MetFree l (⟨"com/example/weftline/weftline/runner/BodyMorePinLaw", "after", "([BII)I"⟩ : MethodName) (head1 (Jvm.Cond.code (⟨"com/example/weftline/weftline/runner/BodyMorePinLaw", "after", "([BII)I"⟩ : MethodName) method_3_code 3 (some .int) :: ws) ({ frames := 1, cells := 0, slots := 0, locals := 12 } : Room)) (fun a U => a = #[(.ref r0), (.int p1), (.int p2)] ∧ Z.Warmed39 U.vm ∧ U.heap = h0) (fun _ _ _ _ _ => True) (fun _ U o U' => ∃ v L, o = .returned v ∧ (Q5 Z f p1 p2 h0 n0) v U'.heap L ∧ FrameEnd U o U' L ({ frames := 1, cells := 0, slots := 0, locals := 12 } : Room).cells ({ frames := 1, cells := 0, slots := 0, locals := 12 } : Room).slots) := by
  refine MetFree.of_bodySF (plainFor_of_name pn_5) hisR ?_
  intro p e s m args below meth c s₁ Bd hml0 hP hK
  obtain ⟨rfl, hZ, hh⟩ := hP
  have hx := Bd.exec
  have hby := Bd.bytes
  have hret := Bd.returns
  have hlk := BodyLoose.notSynchronized Bd
  have hml : c.maxLocals = 3 := hml0
  have hown : s.vm.findClass "com/example/weftline/weftline/runner/BodyMorePinLaw" = some m.cls := findClass_of_methodNamed Bd.named
  have hnm := (name_of_methodNamed Bd.named Bd.method).1
  have X0 : Stand p l e ({ frames := 1, cells := 0, slots := 0, locals := 12 } : Room) s m #[(.ref r0), (.int p1), (.int p2)] below meth c s₁ [] 0 0 := Stand.of_body Bd
  have e0 : s₁.heap = h0 := by rw [← hh, Bd.state]; rfl
  have N0 := Fr.nil n0
  show own_Ends p e below s ({ frames := 1, cells := 0, slots := 0, locals := 12 } : Room).cells ({ frames := 1, cells := 0, slots := 0, locals := 12 } : Room).slots (Q5 Z f p1 p2 h0 n0) (s₁.setTop (entryFrame m #[(.ref r0), (.int p1), (.int p2)] 3))
  refine own_cast (ef_5 m r0 p1 p2) ?_
  exact ja_0 r0 p1 p2 f _ X0 hx hZ hw hby hml hown hret hlk e0 N0 Z0 A_0 rfl
def own_run (f : Nat → Int32) (P j : Nat) (r lim : Int32) : Prop := r.toInt = ((P + j + 1 : Nat) : Int) ∧ P + j < 4 ∧ ((P + j : Nat) : Int) < lim.toInt ∧ (∀ i, i < j → ¬ ((f (P + i)) &&& (128 : Int32)) = (0 : Int32)) ∧ ((f (P + j)) &&& (128 : Int32)) = (0 : Int32)
section Run
variable {f : Nat → Int32} {P j : Nat} {r lim z : Int32}
theorem own_128 (x : Int32) : ((x &&& (255 : Int32)) &&& (128 : Int32)) = (x &&& (128 : Int32)) := by
  rw [Int32.and_assoc]; rfl
theorem own_hj (H : own_run f P j r lim) : j ≤ 9 := by obtain ⟨-, h, -⟩ := H; omega
theorem own_len (H : own_run f P j r lim) : P + j < 4 := H.2.1
theorem own_more (H : own_run f P j r lim) : ∀ i, i < j → ¬ (((f (P + i)) &&& (255 : Int32)) &&& (128 : Int32)) = (0 : Int32) := fun i hi => by rw [own_128]; exact H.2.2.2.1 i hi
theorem own_last (H : own_run f P j r lim) : (((f (P + j)) &&& (255 : Int32)) &&& (128 : Int32)) = (0 : Int32) := by rw [own_128]; exact H.2.2.2.2
theorem own_nine (H : own_run f P j r lim) : j = 9 → ¬ ((1 : Int32) < ((f (P + 9)) &&& (255 : Int32))) := fun q => by have := H.2.1; omega
theorem own_min (z : Int32) : (f4_0 z (4 : Int32)).toInt ≤ z.toInt := by
  unfold f4_0
  by_cases h : (4 : Int32) < z
  · rw [if_pos h]; show (4 : Int32).toInt ≤ _; rw [Int32.lt_iff_toInt_lt] at h; omega
  · rw [if_neg h]; exact Int.le_refl _
theorem own_end (H : own_run f P j r (f4_0 z (4 : Int32))) : ∀ i, i ≤ j → ((P + i : Nat) : Int) ≠ z.toInt := fun i hi => by
  have h1 := H.2.2.1
  have h2 := own_min z
  omega
theorem own_w {w : Int32} (h : w.toInt = ((P + j + 1 : Nat) : Int)) (H : own_run f P j r lim) : w = r := Int32.toInt_inj.mp (h.trans H.1.symm)
theorem own_clear (x : Int32) : f6_0 x = (0 : Int32) ↔ ¬ (x &&& (128 : Int32)) = (0 : Int32) := by
  unfold f6_0
  by_cases h : (x &&& (128 : Int32)) = (0 : Int32)
  · rw [if_pos h]; exact ⟨fun q => absurd (show (1 : Int32) = (0 : Int32) from q) (by decide), fun q => absurd h q⟩
  · rw [if_neg h]; exact ⟨fun _ => h, fun _ => rfl⟩
theorem own_hit {x : Int32} {s : Nat} {S : Int32} (hx : x.toInt = ((P + 0 : Nat) : Int)) (hs : s < 4) (hS : S.toInt = (s : Int)) (h1 : ¬ S < x) (h2 : S < lim) (h3 : ¬ f6_0 (f s) = (0 : Int32)) (hyp : ∀ t : Nat, t < s → P ≤ t → lim.toInt ≤ (t : Int) ∨ ¬ ((f t) &&& (128 : Int32)) = (0 : Int32)) (hr : r.toInt = (s : Int) + 1) : ∃ j, own_run f P j r lim := by
  rw [Int32.lt_iff_toInt_lt] at h1 h2
  have hPs : P ≤ s := by omega
  have e : P + (s - P) = s := by omega
  refine ⟨s - P, ?_, ?_, ?_, ?_, ?_⟩
  · rw [e, hr]; rfl
  · omega
  · rw [e]; omega
  · intro i hi
    rcases hyp (P + i) (by omega) (by omega) with q | q
    · omega
    · exact q
  · rw [e]
    exact Decidable.of_not_not (fun q => h3 ((own_clear (f s)).mpr q))
theorem own_pass {x : Int32} {s : Nat} {S : Int32} (hx : x.toInt = ((P + 0 : Nat) : Int)) (hS : S.toInt = (s : Int)) (h : S < x ∨ ¬ S < lim ∨ f6_0 (f s) = (0 : Int32)) (hyp : ∀ t : Nat, t < s → P ≤ t → lim.toInt ≤ (t : Int) ∨ ¬ ((f t) &&& (128 : Int32)) = (0 : Int32)) : ∀ t : Nat, t < s + 1 → P ≤ t → lim.toInt ≤ (t : Int) ∨ ¬ ((f t) &&& (128 : Int32)) = (0 : Int32) := fun t ht hp => by
  by_cases q : t < s
  · exact hyp t q hp
  · have e : t = s := by omega
    subst e
    rcases h with h | h | h
    · rw [Int32.lt_iff_toInt_lt] at h; omega
    · rw [Int32.lt_iff_toInt_lt] at h; left; omega
    · right; exact (own_clear (f t)).mp h
theorem own_st4 {x : Int32} (hx : x.toInt = ((P + 0 : Nat) : Int)) (hr : ¬ r < (0 : Int32)) (hz : own_g82 f x lim = r) : ∃ j, own_run f P j r lim := absurd (show r < (0 : Int32) from hz ▸ (by decide : (-1 : Int32) < (0 : Int32))) hr
theorem own_st3 {x : Int32} (hx : x.toInt = ((P + 0 : Nat) : Int)) (hr : ¬ r < (0 : Int32)) (hz : own_g61 f x lim = r) (hyp : ∀ t : Nat, t < 3 → P ≤ t → lim.toInt ≤ (t : Int) ∨ ¬ ((f t) &&& (128 : Int32)) = (0 : Int32)) : ∃ j, own_run f P j r lim := by
  unfold own_g61 at hz
  by_cases c1 : (3 : Int32) < x
  · rw [if_pos c1] at hz; exact own_st4 hx hr hz
  · rw [if_neg c1] at hz
    by_cases c2 : (3 : Int32) < lim
    · rw [if_pos c2] at hz
      by_cases c3 : f6_0 (f 3) = (0 : Int32)
      · rw [if_pos c3] at hz; exact own_st4 hx hr hz
      · rw [if_neg c3] at hz
        exact own_hit (s := 3) (S := (3 : Int32)) hx (by decide) (by decide) c1 c2 c3 hyp (by rw [← hz]; decide)
    · rw [if_neg c2] at hz; exact own_st4 hx hr hz
theorem own_st2 {x : Int32} (hx : x.toInt = ((P + 0 : Nat) : Int)) (hr : ¬ r < (0 : Int32)) (hz : own_g40 f x lim = r) (hyp : ∀ t : Nat, t < 2 → P ≤ t → lim.toInt ≤ (t : Int) ∨ ¬ ((f t) &&& (128 : Int32)) = (0 : Int32)) : ∃ j, own_run f P j r lim := by
  unfold own_g40 at hz
  by_cases c1 : (2 : Int32) < x
  · rw [if_pos c1] at hz; exact own_st3 hx hr hz (own_pass (S := (2 : Int32)) hx (by decide) (Or.inl c1) hyp)
  · rw [if_neg c1] at hz
    by_cases c2 : (2 : Int32) < lim
    · rw [if_pos c2] at hz
      by_cases c3 : f6_0 (f 2) = (0 : Int32)
      · rw [if_pos c3] at hz; exact own_st3 hx hr hz (own_pass (S := (2 : Int32)) hx (by decide) (Or.inr (Or.inr c3)) hyp)
      · rw [if_neg c3] at hz
        exact own_hit (s := 2) (S := (2 : Int32)) hx (by decide) (by decide) c1 c2 c3 hyp (by rw [← hz]; decide)
    · rw [if_neg c2] at hz; exact own_st3 hx hr hz (own_pass (S := (2 : Int32)) hx (by decide) (Or.inr (Or.inl c2)) hyp)
theorem own_st1 {x : Int32} (hx : x.toInt = ((P + 0 : Nat) : Int)) (hr : ¬ r < (0 : Int32)) (hz : own_g19 f x lim = r) (hyp : ∀ t : Nat, t < 1 → P ≤ t → lim.toInt ≤ (t : Int) ∨ ¬ ((f t) &&& (128 : Int32)) = (0 : Int32)) : ∃ j, own_run f P j r lim := by
  unfold own_g19 at hz
  by_cases c1 : (1 : Int32) < x
  · rw [if_pos c1] at hz; exact own_st2 hx hr hz (own_pass (S := (1 : Int32)) hx (by decide) (Or.inl c1) hyp)
  · rw [if_neg c1] at hz
    by_cases c2 : (1 : Int32) < lim
    · rw [if_pos c2] at hz
      by_cases c3 : f6_0 (f 1) = (0 : Int32)
      · rw [if_pos c3] at hz; exact own_st2 hx hr hz (own_pass (S := (1 : Int32)) hx (by decide) (Or.inr (Or.inr c3)) hyp)
      · rw [if_neg c3] at hz
        exact own_hit (s := 1) (S := (1 : Int32)) hx (by decide) (by decide) c1 c2 c3 hyp (by rw [← hz]; decide)
    · rw [if_neg c2] at hz; exact own_st2 hx hr hz (own_pass (S := (1 : Int32)) hx (by decide) (Or.inr (Or.inl c2)) hyp)
theorem own_st0 {x : Int32} (hx : x.toInt = ((P + 0 : Nat) : Int)) (hr : ¬ r < (0 : Int32)) (hz : own_g0 f x lim = r) (hyp : ∀ t : Nat, t < 0 → P ≤ t → lim.toInt ≤ (t : Int) ∨ ¬ ((f t) &&& (128 : Int32)) = (0 : Int32)) : ∃ j, own_run f P j r lim := by
  unfold own_g0 at hz
  by_cases c1 : (0 : Int32) < x
  · rw [if_pos c1] at hz; exact own_st1 hx hr hz (own_pass (S := (0 : Int32)) hx (by decide) (Or.inl c1) hyp)
  · rw [if_neg c1] at hz
    by_cases c2 : (0 : Int32) < lim
    · rw [if_pos c2] at hz
      by_cases c3 : f6_0 (f 0) = (0 : Int32)
      · rw [if_pos c3] at hz; exact own_st1 hx hr hz (own_pass (S := (0 : Int32)) hx (by decide) (Or.inr (Or.inr c3)) hyp)
      · rw [if_neg c3] at hz
        exact own_hit (s := 0) (S := (0 : Int32)) hx (by decide) (by decide) c1 c2 c3 hyp (by rw [← hz]; decide)
    · rw [if_neg c2] at hz; exact own_st1 hx hr hz (own_pass (S := (0 : Int32)) hx (by decide) (Or.inr (Or.inl c2)) hyp)
theorem own_after {x : Int32} (hz : own_g0 f x lim = r) (hx : x.toInt = ((P + 0 : Nat) : Int)) (hr : ¬ r < (0 : Int32)) : ∃ j, own_run f P j r lim := own_st0 hx hr hz (fun t ht => absurd ht (Nat.not_lt_zero t))
end Run
theorem pd0_0 : parseMethodDescriptor "([BII)I" = some ⟨[(.array .byte), .int, .int], some .int⟩ := by decide +kernel
theorem pd0_1 : parseMethodDescriptor "()J" = some ⟨[], some .long⟩ := by decide +kernel
theorem pd0_2 : parseMethodDescriptor "()Z" = some ⟨[], some .boolean⟩ := by decide +kernel
theorem pd0_3 : parseMethodDescriptor "(II)I" = some ⟨[.int, .int], some .int⟩ := by decide +kernel
theorem pd0_4 : parseMethodDescriptor "([BI)V" = some ⟨[(.array .byte), .int], none⟩ := by decide +kernel
set_option maxRecDepth 65536 in
set_option maxHeartbeats 40000000 in
theorem law_177 {p : Program} {l : Launch} {e : Env} {s : State} {m : MethodId} {args : Array Value} {below : List Frame} {meth : Method} {c : Code} {T : State} {locs : List Loc} {Z : State} {a0 : Array Value} {hh : Heap} {n0 : Nat} (p0 : Int32) (p1 : Int32) (p2 : Int32) (p3 : Int32) (p4 : Int32) (p5 : Int32) (b : Addr) (o : Addr) (z : Int32) (f : Nat → Int32) (x1 : Int32) (P1 : Nat)
    (X0 : Stand p l e room_1 s m args below meth c T locs 2 7) (hx : p.tables.exec = Jvm.exec) (hZ : Z.Warmed39 s.vm) (hw : ∀ d ∈ tables_1, d.before a0 Z = true) (hby : c.code = code) (hml : c.maxLocals = 15) (hown : s.vm.findClass "com/example/weftline/weftline/runner/BodyMorePinLaw" = some m.cls) (hret : meth.sig.returnType = ret) (hlk : meth.locks = false) (e0 : T.heap = hh) (N0 : Fr n0 locs) (Z0 : n0 ≤ hh.size) (A_0 : own_AI Z hh b .byte 4 f) (E_0 : Exa Z hh o "com/example/weftline/weftline/runner/CompactWire$Body") (F_b : Fld Z hh o "com/example/weftline/weftline/runner/CompactWire$Body" "bytes" "[B" (.ref b)) (F_n : Fld Z hh o "com/example/weftline/weftline/runner/CompactWire$Body" "end" "I" (.int z)) (F_p : Fld Z hh o "com/example/weftline/weftline/runner/CompactWire$Body" "position" "I" (.int x1)) (gn_o : n0 ≤ o) (ne_b_o : b ≠ o) (hx1 : x1.toInt = ((P1 + 0 : Nat) : Int)) :
    own_Ends p e below s 16 128 (fun v h L => v = some (.int 1) ∧ Fr n0 L) (T.setTop (mkF m 177 #[.val (.int p0), .val (.int p1), .val (.int p2), .val (.int p3), .val (.int p4), .val (.int p5), .val (.ref b), .val (.int z), .val (.ref o), .val (.int (f3_0 (0 : Int32) z)), .val (.int (1 : Int32)), .val (.int (f4_0 z (4 : Int32))), .val (.int x1), .val (.int (f3_0 x1 z)), .unset] [])) := by
  show own_Ends p e below s _ _ _ (T.setTop (mkF m 177 #[.val (.int p0), .val (.int p1), .val (.int p2), .val (.int p3), .val (.int p4), .val (.int p5), .val (.ref b), .val (.int z), .val (.ref o), .val (.int (f3_0 (0 : Int32) z)), .val (.int (1 : Int32)), .val (.int (f4_0 z (4 : Int32))), .val (.int x1), .val (.int (f3_0 x1 z)), .unset] []))
  refine own_step (fun t k => XS.aload X0.here hx rfl (hb hby at_177) rfl rfl k) ?_
  show own_Ends p e below s _ _ _ (T.setTop (mkF m 179 #[.val (.int p0), .val (.int p1), .val (.int p2), .val (.int p3), .val (.int p4), .val (.int p5), .val (.ref b), .val (.int z), .val (.ref o), .val (.int (f3_0 (0 : Int32) z)), .val (.int (1 : Int32)), .val (.int (f4_0 z (4 : Int32))), .val (.int x1), .val (.int (f3_0 x1 z)), .unset] [(.ref b)]))
  refine own_step (fun t k => XS.iload X0.here hx rfl (hb hby at_179) rfl k) ?_
  show own_Ends p e below s _ _ _ (T.setTop (mkF m 181 #[.val (.int p0), .val (.int p1), .val (.int p2), .val (.int p3), .val (.int p4), .val (.int p5), .val (.ref b), .val (.int z), .val (.ref o), .val (.int (f3_0 (0 : Int32) z)), .val (.int (1 : Int32)), .val (.int (f4_0 z (4 : Int32))), .val (.int x1), .val (.int (f3_0 x1 z)), .unset] [(.int x1), (.ref b)]))
  refine own_step (fun t k => XS.iload X0.here hx rfl (hb hby at_181) rfl k) ?_
  show own_Ends p e below s _ _ _ (T.setTop (mkF m 183 #[.val (.int p0), .val (.int p1), .val (.int p2), .val (.int p3), .val (.int p4), .val (.int p5), .val (.ref b), .val (.int z), .val (.ref o), .val (.int (f3_0 (0 : Int32) z)), .val (.int (1 : Int32)), .val (.int (f4_0 z (4 : Int32))), .val (.int x1), .val (.int (f3_0 x1 z)), .unset] [(.int (f4_0 z (4 : Int32))), (.int x1), (.ref b)]))
  obtain ⟨_, _, ⟨T501, L501, k501, n501⟩, -, X501, ⟨Lc501, hQ501, l501, y501, z501⟩, st501⟩ := Jvm.LawKit.callS X0 hx (y := (⟨"com/example/weftline/weftline/runner/BodyMorePinLaw", "after", "([BII)I"⟩ : MethodName)) hown (mvT hZ (hw _ (List.mem_of_getElem? (i := 25) rfl))) (mvT hZ (hw _ (List.mem_of_getElem? (i := 26) rfl))) (mvT hZ (hw _ (List.mem_of_getElem? (i := 27) rfl))) (mvT hZ (hw _ (List.mem_of_getElem? (i := 28) rfl))) (by decide) (backOf (W := 0) (rm5 l Z a0 hw [] b x1 (f4_0 z (4 : Int32)) f hh n0 Z0 A_0) hZ (hw _ (List.mem_of_getElem? (i := 28) rfl)) (hw _ (List.mem_of_getElem? (i := 27) rfl)) (by decide) (by decide)) (g := (mkF m 183 #[.val (.int p0), .val (.int p1), .val (.int p2), .val (.int p3), .val (.int p4), .val (.int p5), .val (.ref b), .val (.int z), .val (.ref o), .val (.int (f3_0 (0 : Int32) z)), .val (.int (1 : Int32)), .val (.int (f4_0 z (4 : Int32))), .val (.int x1), .val (.int (f3_0 x1 z)), .unset] [(.int (f4_0 z (4 : Int32))), (.int x1), (.ref b)])) rfl (by rw [hml]; rfl) (argsL := [(.ref b), (.int x1), (.int (f4_0 z (4 : Int32)))]) (rest := []) (lenOf pd0_0 rfl) rfl (by show 2 * 0 + _ ≤ _; exact Nat.le_of_eq rfl) (hb hby at_183) (fun _ _ => ⟨rfl, e0, (by decide : 2 + 0 ≤ _), (by decide : 7 + 0 ≤ _)⟩)
  dsimp only [Pt.U, Pt.locs, Pt.cells, Pt.slots] at X501 l501 y501 z501 st501 hQ501
  subst l501 y501 z501
  obtain ⟨rfl, N501q, e501⟩ := hQ501
  have N501 := Fr.app N0 N501q
  refine own_step st501 ?_
  show own_Ends p e below s _ _ _ (T501.setTop (mkF m 186 #[.val (.int p0), .val (.int p1), .val (.int p2), .val (.int p3), .val (.int p4), .val (.int p5), .val (.ref b), .val (.int z), .val (.ref o), .val (.int (f3_0 (0 : Int32) z)), .val (.int (1 : Int32)), .val (.int (f4_0 z (4 : Int32))), .val (.int x1), .val (.int (f3_0 x1 z)), .unset] [(.int (own_g0 f x1 (f4_0 z (4 : Int32))))]))
  generalize hz186 : (own_g0 f x1 (f4_0 z (4 : Int32))) = z186
  show own_Ends p e below s _ _ _ (T501.setTop (mkF m 186 #[.val (.int p0), .val (.int p1), .val (.int p2), .val (.int p3), .val (.int p4), .val (.int p5), .val (.ref b), .val (.int z), .val (.ref o), .val (.int (f3_0 (0 : Int32) z)), .val (.int (1 : Int32)), .val (.int (f4_0 z (4 : Int32))), .val (.int x1), .val (.int (f3_0 x1 z)), .unset] [(.int z186)]))
  refine own_step (fun t k => XS.istore X501.here hx rfl (hb hby at_186) rfl (l' := #[.val (.int p0), .val (.int p1), .val (.int p2), .val (.int p3), .val (.int p4), .val (.int p5), .val (.ref b), .val (.int z), .val (.ref o), .val (.int (f3_0 (0 : Int32) z)), .val (.int (1 : Int32)), .val (.int (f4_0 z (4 : Int32))), .val (.int x1), .val (.int (f3_0 x1 z)), .val (.int z186)]) rfl k) ?_
  show own_Ends p e below s _ _ _ (T501.setTop (mkF m 188 #[.val (.int p0), .val (.int p1), .val (.int p2), .val (.int p3), .val (.int p4), .val (.int p5), .val (.ref b), .val (.int z), .val (.ref o), .val (.int (f3_0 (0 : Int32) z)), .val (.int (1 : Int32)), .val (.int (f4_0 z (4 : Int32))), .val (.int x1), .val (.int (f3_0 x1 z)), .val (.int z186)] []))
  refine own_step (fun t k => XS.iload X501.here hx rfl (hb hby at_188) rfl k) ?_
  show own_Ends p e below s _ _ _ (T501.setTop (mkF m 190 #[.val (.int p0), .val (.int p1), .val (.int p2), .val (.int p3), .val (.int p4), .val (.int p5), .val (.ref b), .val (.int z), .val (.ref o), .val (.int (f3_0 (0 : Int32) z)), .val (.int (1 : Int32)), .val (.int (f4_0 z (4 : Int32))), .val (.int x1), .val (.int (f3_0 x1 z)), .val (.int z186)] [(.int z186)]))
  by_cases hc190_502 : z186 < (0 : Int32)
  · -- z186 < (0 : Int32)
    refine own_step (fun t k => XS.ifNo X501.here hx rfl (hb hby at_190) rfl ((if0 _ _).trans (tlt hc190_502).2.1) k) ?_
    show own_Ends p e below s _ _ _ (T501.setTop (mkF m 193 #[.val (.int p0), .val (.int p1), .val (.int p2), .val (.int p3), .val (.int p4), .val (.int p5), .val (.ref b), .val (.int z), .val (.ref o), .val (.int (f3_0 (0 : Int32) z)), .val (.int (1 : Int32)), .val (.int (f4_0 z (4 : Int32))), .val (.int x1), .val (.int (f3_0 x1 z)), .val (.int z186)] []))
    refine own_step (fun t k => XS.iload X501.here hx rfl (hb hby at_193) rfl k) ?_
    show own_Ends p e below s _ _ _ (T501.setTop (mkF m 195 #[.val (.int p0), .val (.int p1), .val (.int p2), .val (.int p3), .val (.int p4), .val (.int p5), .val (.ref b), .val (.int z), .val (.ref o), .val (.int (f3_0 (0 : Int32) z)), .val (.int (1 : Int32)), .val (.int (f4_0 z (4 : Int32))), .val (.int x1), .val (.int (f3_0 x1 z)), .val (.int z186)] [(.int (1 : Int32))]))
    exact own_retN X501 hx hlk (t := .boolean) hret (by simp) (hb hby at_195) (w := (1 : Int32)) (by decide) ⟨rfl, N501⟩ (by decide) (by decide)
  · -- not z186 < (0 : Int32)
    refine own_step (fun t k => XS.ifYes X501.here hx rfl (pc0 := 190) (pc' := 196) rfl (hb hby at_190) rfl ((if0 _ _).trans (flt hc190_502).2.1) (by decide) (by decide) k) ?_
    show own_Ends p e below s _ _ _ (T501.setTop (mkF m 196 #[.val (.int p0), .val (.int p1), .val (.int p2), .val (.int p3), .val (.int p4), .val (.int p5), .val (.ref b), .val (.int z), .val (.ref o), .val (.int (f3_0 (0 : Int32) z)), .val (.int (1 : Int32)), .val (.int (f4_0 z (4 : Int32))), .val (.int x1), .val (.int (f3_0 x1 z)), .val (.int z186)] []))
    refine own_step (fun t k => XS.aload X501.here hx rfl (hb hby at_196) rfl rfl k) ?_
    show own_Ends p e below s _ _ _ (T501.setTop (mkF m 198 #[.val (.int p0), .val (.int p1), .val (.int p2), .val (.int p3), .val (.int p4), .val (.int p5), .val (.ref b), .val (.int z), .val (.ref o), .val (.int (f3_0 (0 : Int32) z)), .val (.int (1 : Int32)), .val (.int (f4_0 z (4 : Int32))), .val (.int x1), .val (.int (f3_0 x1 z)), .val (.int z186)] [(.ref o)]))
    obtain ⟨j2, hj2⟩ := own_after hz186 hx1 hc190_502
    obtain ⟨cq503, kq503, q503a, q503b, q503c⟩ := isOf hZ e501 E_0
    obtain ⟨_, _, ⟨T503, L503, k503, n503⟩, -, X503, ⟨Lc503, hQ503, l503, y503, z503⟩, st503⟩ := X501.virtualBack hx (y := (⟨"com/example/weftline/weftline/runner/CompactWire$Body", "varint", "()J"⟩ : MethodName)) (z := (⟨"com/example/weftline/weftline/runner/CompactWire$Body", "varint", "()J"⟩ : MethodName)) hown (mvT hZ (hw _ (List.mem_of_getElem? (i := 32) rfl))) (mvT hZ (hw _ (List.mem_of_getElem? (i := 33) rfl))) (notFace_of_selects (args := #[]) (mvT hZ (hw _ (List.mem_of_getElem? (i := 35) rfl)))) (mvT hZ (hw _ (List.mem_of_getElem? (i := 35) rfl))) (mvT hZ (hw _ (List.mem_of_getElem? (i := 34) rfl))) (by decide) (backOf (W := 0) (rm7 l Z a0 hw [] o b z x1 4 f P1 j2 hh n0 Z0 gn_o E_0 F_b F_n F_p A_0 ne_b_o hx1 (own_hj hj2) (own_len hj2) (by decide) (own_more hj2) (own_last hj2) (own_nine hj2) (own_end hj2)) hZ (hw _ (List.mem_of_getElem? (i := 36) rfl)) (hw _ (List.mem_of_getElem? (i := 3) rfl)) (by decide) (by decide)) q503a q503c (g := (mkF m 198 #[.val (.int p0), .val (.int p1), .val (.int p2), .val (.int p3), .val (.int p4), .val (.int p5), .val (.ref b), .val (.int z), .val (.ref o), .val (.int (f3_0 (0 : Int32) z)), .val (.int (1 : Int32)), .val (.int (f4_0 z (4 : Int32))), .val (.int x1), .val (.int (f3_0 x1 z)), .val (.int z186)] [(.ref o)])) rfl (by rw [hml]; rfl) (Steps.refl _) (argsL := []) (rest := []) (lenOf pd0_1 rfl) rfl (by show 2 * 0 + _ ≤ _; exact Nat.le_of_eq rfl) (hb hby at_198) (fun _ _ => ⟨rfl, e501, (by decide : 2 + 0 ≤ _), (by decide : 7 + 0 ≤ _)⟩)
    dsimp only [Pt.U, Pt.locs, Pt.cells, Pt.slots] at X503 l503 y503 z503 st503 hQ503
    subst l503 y503 z503
    obtain ⟨rfl, N503q, Z503, K503, E503_0, F503_bytes, F503_end, w503, hw503, F503_position⟩ := hQ503
    have N503 := Fr.app N501 N503q
    have u504 := (A_0.keep K503 (ninS ne_b_o nin0))
    have hww503 : w503 = z186 := own_w hw503 hj2
    rw [hww503] at F503_position
    refine own_step (fun t k => st503.trans k) ?_
    show own_Ends p e below s _ _ _ (T503.setTop (mkF m 201 #[.val (.int p0), .val (.int p1), .val (.int p2), .val (.int p3), .val (.int p4), .val (.int p5), .val (.ref b), .val (.int z), .val (.ref o), .val (.int (f3_0 (0 : Int32) z)), .val (.int (1 : Int32)), .val (.int (f4_0 z (4 : Int32))), .val (.int x1), .val (.int (f3_0 x1 z)), .val (.int z186)] [(.long (own_acc f P1 (j2 + 1)))]))
    refine own_step (fun t k => own_pop2L X503 hx rfl (hb hby at_201) rfl k) ?_
    show own_Ends p e below s _ _ _ (T503.setTop (mkF m 202 #[.val (.int p0), .val (.int p1), .val (.int p2), .val (.int p3), .val (.int p4), .val (.int p5), .val (.ref b), .val (.int z), .val (.ref o), .val (.int (f3_0 (0 : Int32) z)), .val (.int (1 : Int32)), .val (.int (f4_0 z (4 : Int32))), .val (.int x1), .val (.int (f3_0 x1 z)), .val (.int z186)] []))
    refine own_step (fun t k => XS.iload X503.here hx rfl (hb hby at_202) rfl k) ?_
    show own_Ends p e below s _ _ _ (T503.setTop (mkF m 204 #[.val (.int p0), .val (.int p1), .val (.int p2), .val (.int p3), .val (.int p4), .val (.int p5), .val (.ref b), .val (.int z), .val (.ref o), .val (.int (f3_0 (0 : Int32) z)), .val (.int (1 : Int32)), .val (.int (f4_0 z (4 : Int32))), .val (.int x1), .val (.int (f3_0 x1 z)), .val (.int z186)] [(.int (1 : Int32))]))
    refine own_step (fun t k => XS.ifNo X503.here hx rfl (hb hby at_204) rfl ((if0 _ _).trans (feq (by decide : ¬ ((1 : Int32) = (0 : Int32)))).1) k) ?_
    show own_Ends p e below s _ _ _ (T503.setTop (mkF m 207 #[.val (.int p0), .val (.int p1), .val (.int p2), .val (.int p3), .val (.int p4), .val (.int p5), .val (.ref b), .val (.int z), .val (.ref o), .val (.int (f3_0 (0 : Int32) z)), .val (.int (1 : Int32)), .val (.int (f4_0 z (4 : Int32))), .val (.int x1), .val (.int (f3_0 x1 z)), .val (.int z186)] []))
    refine own_step (fun t k => XS.aload X503.here hx rfl (hb hby at_207) rfl rfl k) ?_
    show own_Ends p e below s _ _ _ (T503.setTop (mkF m 209 #[.val (.int p0), .val (.int p1), .val (.int p2), .val (.int p3), .val (.int p4), .val (.int p5), .val (.ref b), .val (.int z), .val (.ref o), .val (.int (f3_0 (0 : Int32) z)), .val (.int (1 : Int32)), .val (.int (f4_0 z (4 : Int32))), .val (.int x1), .val (.int (f3_0 x1 z)), .val (.int z186)] [(.ref o)]))
    obtain ⟨cq505, kq505, q505a, q505b, q505c⟩ := isOf hZ rfl E503_0
    obtain ⟨_, _, ⟨T505, L505, k505, n505⟩, -, X505, ⟨Lc505, hQ505, l505, y505, z505⟩, st505⟩ := X503.virtualBack hx (y := (⟨"com/example/weftline/weftline/runner/CompactWire$Body", "more", "()Z"⟩ : MethodName)) (z := (⟨"com/example/weftline/weftline/runner/CompactWire$Body", "more", "()Z"⟩ : MethodName)) hown (mvT hZ (hw _ (List.mem_of_getElem? (i := 14) rfl))) (mvT hZ (hw _ (List.mem_of_getElem? (i := 15) rfl))) (notFace_of_selects (args := #[]) (mvT hZ (hw _ (List.mem_of_getElem? (i := 17) rfl)))) (mvT hZ (hw _ (List.mem_of_getElem? (i := 17) rfl))) (mvT hZ (hw _ (List.mem_of_getElem? (i := 16) rfl))) (by decide) (backOf (W := 0) (rm3 l Z a0 hw [] o z186 z T503.heap n0 F503_position F503_end ) hZ (hw _ (List.mem_of_getElem? (i := 18) rfl)) (hw _ (List.mem_of_getElem? (i := 3) rfl)) (by decide) (by decide)) q505a q505c (g := (mkF m 209 #[.val (.int p0), .val (.int p1), .val (.int p2), .val (.int p3), .val (.int p4), .val (.int p5), .val (.ref b), .val (.int z), .val (.ref o), .val (.int (f3_0 (0 : Int32) z)), .val (.int (1 : Int32)), .val (.int (f4_0 z (4 : Int32))), .val (.int x1), .val (.int (f3_0 x1 z)), .val (.int z186)] [(.ref o)])) rfl (by rw [hml]; rfl) (Steps.refl _) (argsL := []) (rest := []) (lenOf pd0_2 rfl) rfl (by show 2 * 0 + _ ≤ _; exact Nat.le_of_eq rfl) (hb hby at_209) (fun _ _ => ⟨rfl, rfl, (by decide : 2 + 0 ≤ _), (by decide : 7 + 0 ≤ _)⟩)
    dsimp only [Pt.U, Pt.locs, Pt.cells, Pt.slots] at X505 l505 y505 z505 st505 hQ505
    subst l505 y505 z505
    obtain ⟨rfl, N505q, e505⟩ := hQ505
    have N505 := Fr.app N503 N505q
    refine own_step (fun t k => st505.trans k) ?_
    show own_Ends p e below s _ _ _ (T505.setTop (mkF m 212 #[.val (.int p0), .val (.int p1), .val (.int p2), .val (.int p3), .val (.int p4), .val (.int p5), .val (.ref b), .val (.int z), .val (.ref o), .val (.int (f3_0 (0 : Int32) z)), .val (.int (1 : Int32)), .val (.int (f4_0 z (4 : Int32))), .val (.int x1), .val (.int (f3_0 x1 z)), .val (.int z186)] [(.int (f3_0 z186 z))]))
    refine own_step (fun t k => XS.iload X505.here hx rfl (hb hby at_212) rfl k) ?_
    show own_Ends p e below s _ _ _ (T505.setTop (mkF m 214 #[.val (.int p0), .val (.int p1), .val (.int p2), .val (.int p3), .val (.int p4), .val (.int p5), .val (.ref b), .val (.int z), .val (.ref o), .val (.int (f3_0 (0 : Int32) z)), .val (.int (1 : Int32)), .val (.int (f4_0 z (4 : Int32))), .val (.int x1), .val (.int (f3_0 x1 z)), .val (.int z186)] [(.int z186), (.int (f3_0 z186 z))]))
    refine own_step (fun t k => XS.iload X505.here hx rfl (hb hby at_214) rfl k) ?_
    show own_Ends p e below s _ _ _ (T505.setTop (mkF m 216 #[.val (.int p0), .val (.int p1), .val (.int p2), .val (.int p3), .val (.int p4), .val (.int p5), .val (.ref b), .val (.int z), .val (.ref o), .val (.int (f3_0 (0 : Int32) z)), .val (.int (1 : Int32)), .val (.int (f4_0 z (4 : Int32))), .val (.int x1), .val (.int (f3_0 x1 z)), .val (.int z186)] [(.int z), (.int z186), (.int (f3_0 z186 z))]))
    by_cases hc216_506 : z186 < z
    · -- z186 < z
      refine own_step (fun t k => XS.icmpNo X505.here hx rfl (hb hby at_216) rfl (tlt hc216_506).2.1 k) ?_
      show own_Ends p e below s _ _ _ (T505.setTop (mkF m 219 #[.val (.int p0), .val (.int p1), .val (.int p2), .val (.int p3), .val (.int p4), .val (.int p5), .val (.ref b), .val (.int z), .val (.ref o), .val (.int (f3_0 (0 : Int32) z)), .val (.int (1 : Int32)), .val (.int (f4_0 z (4 : Int32))), .val (.int x1), .val (.int (f3_0 x1 z)), .val (.int z186)] [(.int (f3_0 z186 z))]))
      refine own_step (fun t k => XS.iconst X505.here hx rfl (hb hby at_219) k) ?_
      show own_Ends p e below s _ _ _ (T505.setTop (mkF m 220 #[.val (.int p0), .val (.int p1), .val (.int p2), .val (.int p3), .val (.int p4), .val (.int p5), .val (.ref b), .val (.int z), .val (.ref o), .val (.int (f3_0 (0 : Int32) z)), .val (.int (1 : Int32)), .val (.int (f4_0 z (4 : Int32))), .val (.int x1), .val (.int (f3_0 x1 z)), .val (.int z186)] [(.int (1 : Int32)), (.int (f3_0 z186 z))]))
      refine own_step (fun t k => XS.goto X505.here hx rfl (pc0 := 220) (pc' := 224) rfl (hb hby at_220) (by decide) (by decide) k) ?_
      show own_Ends p e below s _ _ _ (T505.setTop (mkF m 224 #[.val (.int p0), .val (.int p1), .val (.int p2), .val (.int p3), .val (.int p4), .val (.int p5), .val (.ref b), .val (.int z), .val (.ref o), .val (.int (f3_0 (0 : Int32) z)), .val (.int (1 : Int32)), .val (.int (f4_0 z (4 : Int32))), .val (.int x1), .val (.int (f3_0 x1 z)), .val (.int z186)] [(.int (1 : Int32)), (.int (f3_0 z186 z))]))
      refine own_step (fun t k => XS.icmpNo X505.here hx rfl (hb hby at_224) rfl (teq (if_pos hc216_506)).2 k) ?_
      show own_Ends p e below s _ _ _ (T505.setTop (mkF m 227 #[.val (.int p0), .val (.int p1), .val (.int p2), .val (.int p3), .val (.int p4), .val (.int p5), .val (.ref b), .val (.int z), .val (.ref o), .val (.int (f3_0 (0 : Int32) z)), .val (.int (1 : Int32)), .val (.int (f4_0 z (4 : Int32))), .val (.int x1), .val (.int (f3_0 x1 z)), .val (.int z186)] []))
      refine own_step (fun t k => XS.iconst X505.here hx rfl (hb hby at_227) k) ?_
      show own_Ends p e below s _ _ _ (T505.setTop (mkF m 228 #[.val (.int p0), .val (.int p1), .val (.int p2), .val (.int p3), .val (.int p4), .val (.int p5), .val (.ref b), .val (.int z), .val (.ref o), .val (.int (f3_0 (0 : Int32) z)), .val (.int (1 : Int32)), .val (.int (f4_0 z (4 : Int32))), .val (.int x1), .val (.int (f3_0 x1 z)), .val (.int z186)] [(.int (1 : Int32))]))
      refine own_step (fun t k => XS.goto X505.here hx rfl (pc0 := 228) (pc' := 232) rfl (hb hby at_228) (by decide) (by decide) k) ?_
      show own_Ends p e below s _ _ _ (T505.setTop (mkF m 232 #[.val (.int p0), .val (.int p1), .val (.int p2), .val (.int p3), .val (.int p4), .val (.int p5), .val (.ref b), .val (.int z), .val (.ref o), .val (.int (f3_0 (0 : Int32) z)), .val (.int (1 : Int32)), .val (.int (f4_0 z (4 : Int32))), .val (.int x1), .val (.int (f3_0 x1 z)), .val (.int z186)] [(.int (1 : Int32))]))
      exact own_retN X505 hx hlk (t := .boolean) hret (by simp) (hb hby at_232) (w := (1 : Int32)) (by decide) ⟨rfl, N505⟩ (by decide) (by decide)
    · -- not z186 < z
      refine own_step (fun t k => XS.icmpYes X505.here hx rfl (pc0 := 216) (pc' := 223) rfl (hb hby at_216) rfl (flt hc216_506).2.1 (by decide) (by decide) k) ?_
      show own_Ends p e below s _ _ _ (T505.setTop (mkF m 223 #[.val (.int p0), .val (.int p1), .val (.int p2), .val (.int p3), .val (.int p4), .val (.int p5), .val (.ref b), .val (.int z), .val (.ref o), .val (.int (f3_0 (0 : Int32) z)), .val (.int (1 : Int32)), .val (.int (f4_0 z (4 : Int32))), .val (.int x1), .val (.int (f3_0 x1 z)), .val (.int z186)] [(.int (f3_0 z186 z))]))
      refine own_step (fun t k => XS.iconst X505.here hx rfl (hb hby at_223) k) ?_
      show own_Ends p e below s _ _ _ (T505.setTop (mkF m 224 #[.val (.int p0), .val (.int p1), .val (.int p2), .val (.int p3), .val (.int p4), .val (.int p5), .val (.ref b), .val (.int z), .val (.ref o), .val (.int (f3_0 (0 : Int32) z)), .val (.int (1 : Int32)), .val (.int (f4_0 z (4 : Int32))), .val (.int x1), .val (.int (f3_0 x1 z)), .val (.int z186)] [(.int (0 : Int32)), (.int (f3_0 z186 z))]))
      refine own_step (fun t k => XS.icmpNo X505.here hx rfl (hb hby at_224) rfl (teq (if_neg hc216_506)).2 k) ?_
      show own_Ends p e below s _ _ _ (T505.setTop (mkF m 227 #[.val (.int p0), .val (.int p1), .val (.int p2), .val (.int p3), .val (.int p4), .val (.int p5), .val (.ref b), .val (.int z), .val (.ref o), .val (.int (f3_0 (0 : Int32) z)), .val (.int (1 : Int32)), .val (.int (f4_0 z (4 : Int32))), .val (.int x1), .val (.int (f3_0 x1 z)), .val (.int z186)] []))
      refine own_step (fun t k => XS.iconst X505.here hx rfl (hb hby at_227) k) ?_
      show own_Ends p e below s _ _ _ (T505.setTop (mkF m 228 #[.val (.int p0), .val (.int p1), .val (.int p2), .val (.int p3), .val (.int p4), .val (.int p5), .val (.ref b), .val (.int z), .val (.ref o), .val (.int (f3_0 (0 : Int32) z)), .val (.int (1 : Int32)), .val (.int (f4_0 z (4 : Int32))), .val (.int x1), .val (.int (f3_0 x1 z)), .val (.int z186)] [(.int (1 : Int32))]))
      refine own_step (fun t k => XS.goto X505.here hx rfl (pc0 := 228) (pc' := 232) rfl (hb hby at_228) (by decide) (by decide) k) ?_
      show own_Ends p e below s _ _ _ (T505.setTop (mkF m 232 #[.val (.int p0), .val (.int p1), .val (.int p2), .val (.int p3), .val (.int p4), .val (.int p5), .val (.ref b), .val (.int z), .val (.ref o), .val (.int (f3_0 (0 : Int32) z)), .val (.int (1 : Int32)), .val (.int (f4_0 z (4 : Int32))), .val (.int x1), .val (.int (f3_0 x1 z)), .val (.int z186)] [(.int (1 : Int32))]))
      exact own_retN X505 hx hlk (t := .boolean) hret (by simp) (hb hby at_232) (w := (1 : Int32)) (by decide) ⟨rfl, N505⟩ (by decide) (by decide)
set_option maxRecDepth 65536 in
set_option maxHeartbeats 40000000 in
theorem law_99 {p : Program} {l : Launch} {e : Env} {s : State} {m : MethodId} {args : Array Value} {below : List Frame} {meth : Method} {c : Code} {T : State} {locs : List Loc} {Z : State} {a0 : Array Value} {hh : Heap} {n0 : Nat} (p0 : Int32) (p1 : Int32) (p2 : Int32) (p3 : Int32) (p4 : Int32) (p5 : Int32) (b : Addr) (o : Addr) (z : Int32) (f : Nat → Int32)
    (X0 : Stand p l e room_1 s m args below meth c T locs 2 7) (hx : p.tables.exec = Jvm.exec) (hZ : Z.Warmed39 s.vm) (hw : ∀ d ∈ tables_1, d.before a0 Z = true) (hby : c.code = code) (hml : c.maxLocals = 15) (hown : s.vm.findClass "com/example/weftline/weftline/runner/BodyMorePinLaw" = some m.cls) (hret : meth.sig.returnType = ret) (hlk : meth.locks = false) (e0 : T.heap = hh) (N0 : Fr n0 locs) (Z0 : n0 ≤ hh.size) (A_0 : own_AI Z hh b .byte 4 f) (E_0 : Exa Z hh o "com/example/weftline/weftline/runner/CompactWire$Body") (F_b : Fld Z hh o "com/example/weftline/weftline/runner/CompactWire$Body" "bytes" "[B" (.ref b)) (F_n : Fld Z hh o "com/example/weftline/weftline/runner/CompactWire$Body" "end" "I" (.int z)) (F_p : Fld Z hh o "com/example/weftline/weftline/runner/CompactWire$Body" "position" "I" (.int (0 : Int32))) (gn_o : n0 ≤ o) (ne_b_o : b ≠ o) :
    own_Ends p e below s 16 128 (fun v h L => v = some (.int 1) ∧ Fr n0 L) (T.setTop (mkF m 99 #[.val (.int p0), .val (.int p1), .val (.int p2), .val (.int p3), .val (.int p4), .val (.int p5), .val (.ref b), .val (.int z), .val (.ref o), .val (.int (f3_0 (0 : Int32) z)), .val (.int (1 : Int32)), .unset, .unset, .unset, .unset] [])) := by
  show own_Ends p e below s _ _ _ (T.setTop (mkF m 99 #[.val (.int p0), .val (.int p1), .val (.int p2), .val (.int p3), .val (.int p4), .val (.int p5), .val (.ref b), .val (.int z), .val (.ref o), .val (.int (f3_0 (0 : Int32) z)), .val (.int (1 : Int32)), .unset, .unset, .unset, .unset] []))
  refine own_step (fun t k => XS.iload X0.here hx rfl (hb hby at_99) rfl k) ?_
  show own_Ends p e below s _ _ _ (T.setTop (mkF m 101 #[.val (.int p0), .val (.int p1), .val (.int p2), .val (.int p3), .val (.int p4), .val (.int p5), .val (.ref b), .val (.int z), .val (.ref o), .val (.int (f3_0 (0 : Int32) z)), .val (.int (1 : Int32)), .unset, .unset, .unset, .unset] [(.int z)]))
  refine own_step (fun t k => XS.iconst X0.here hx rfl (hb hby at_101) k) ?_
  show own_Ends p e below s _ _ _ (T.setTop (mkF m 102 #[.val (.int p0), .val (.int p1), .val (.int p2), .val (.int p3), .val (.int p4), .val (.int p5), .val (.ref b), .val (.int z), .val (.ref o), .val (.int (f3_0 (0 : Int32) z)), .val (.int (1 : Int32)), .unset, .unset, .unset, .unset] [(.int (4 : Int32)), (.int z)]))
  obtain ⟨_, _, ⟨T501, L501, k501, n501⟩, -, X501, ⟨Lc501, hQ501, l501, y501, z501⟩, st501⟩ := Jvm.LawKit.callS X0 hx (y := (⟨"java/lang/Math", "min", "(II)I"⟩ : MethodName)) hown (mvT hZ (hw _ (List.mem_of_getElem? (i := 21) rfl))) (mvT hZ (hw _ (List.mem_of_getElem? (i := 22) rfl))) (mvT hZ (hw _ (List.mem_of_getElem? (i := 23) rfl))) (mvT hZ (hw _ (List.mem_of_getElem? (i := 24) rfl))) (by decide) (backOf (W := 0) (rm4 l Z a0 hw [] z (4 : Int32)  hh n0  ) hZ (hw _ (List.mem_of_getElem? (i := 24) rfl)) (hw _ (List.mem_of_getElem? (i := 23) rfl)) (by decide) (by decide)) (g := (mkF m 102 #[.val (.int p0), .val (.int p1), .val (.int p2), .val (.int p3), .val (.int p4), .val (.int p5), .val (.ref b), .val (.int z), .val (.ref o), .val (.int (f3_0 (0 : Int32) z)), .val (.int (1 : Int32)), .unset, .unset, .unset, .unset] [(.int (4 : Int32)), (.int z)])) rfl (by rw [hml]; rfl) (argsL := [(.int z), (.int (4 : Int32))]) (rest := []) (lenOf pd0_3 rfl) rfl (by show 2 * 0 + _ ≤ _; exact Nat.le_of_eq rfl) (hb hby at_102) (fun _ _ => ⟨rfl, e0, (by decide : 2 + 0 ≤ _), (by decide : 7 + 0 ≤ _)⟩)
  dsimp only [Pt.U, Pt.locs, Pt.cells, Pt.slots] at X501 l501 y501 z501 st501 hQ501
  subst l501 y501 z501
  obtain ⟨rfl, N501q, e501⟩ := hQ501
  have N501 := Fr.app N0 N501q
  refine own_step st501 ?_
  show own_Ends p e below s _ _ _ (T501.setTop (mkF m 105 #[.val (.int p0), .val (.int p1), .val (.int p2), .val (.int p3), .val (.int p4), .val (.int p5), .val (.ref b), .val (.int z), .val (.ref o), .val (.int (f3_0 (0 : Int32) z)), .val (.int (1 : Int32)), .unset, .unset, .unset, .unset] [(.int (f4_0 z (4 : Int32)))]))
  refine own_step (fun t k => XS.istore X501.here hx rfl (hb hby at_105) rfl (l' := #[.val (.int p0), .val (.int p1), .val (.int p2), .val (.int p3), .val (.int p4), .val (.int p5), .val (.ref b), .val (.int z), .val (.ref o), .val (.int (f3_0 (0 : Int32) z)), .val (.int (1 : Int32)), .val (.int (f4_0 z (4 : Int32))), .unset, .unset, .unset]) rfl k) ?_
  show own_Ends p e below s _ _ _ (T501.setTop (mkF m 107 #[.val (.int p0), .val (.int p1), .val (.int p2), .val (.int p3), .val (.int p4), .val (.int p5), .val (.ref b), .val (.int z), .val (.ref o), .val (.int (f3_0 (0 : Int32) z)), .val (.int (1 : Int32)), .val (.int (f4_0 z (4 : Int32))), .unset, .unset, .unset] []))
  refine own_step (fun t k => XS.aload X501.here hx rfl (hb hby at_107) rfl rfl k) ?_
  show own_Ends p e below s _ _ _ (T501.setTop (mkF m 109 #[.val (.int p0), .val (.int p1), .val (.int p2), .val (.int p3), .val (.int p4), .val (.int p5), .val (.ref b), .val (.int z), .val (.ref o), .val (.int (f3_0 (0 : Int32) z)), .val (.int (1 : Int32)), .val (.int (f4_0 z (4 : Int32))), .unset, .unset, .unset] [(.ref b)]))
  refine own_step (fun t k => XS.iconst X501.here hx rfl (hb hby at_109) k) ?_
  show own_Ends p e below s _ _ _ (T501.setTop (mkF m 110 #[.val (.int p0), .val (.int p1), .val (.int p2), .val (.int p3), .val (.int p4), .val (.int p5), .val (.ref b), .val (.int z), .val (.ref o), .val (.int (f3_0 (0 : Int32) z)), .val (.int (1 : Int32)), .val (.int (f4_0 z (4 : Int32))), .unset, .unset, .unset] [(.int (0 : Int32)), (.ref b)]))
  refine own_step (fun t k => XS.iload X501.here hx rfl (hb hby at_110) rfl k) ?_
  show own_Ends p e below s _ _ _ (T501.setTop (mkF m 112 #[.val (.int p0), .val (.int p1), .val (.int p2), .val (.int p3), .val (.int p4), .val (.int p5), .val (.ref b), .val (.int z), .val (.ref o), .val (.int (f3_0 (0 : Int32) z)), .val (.int (1 : Int32)), .val (.int (f4_0 z (4 : Int32))), .unset, .unset, .unset] [(.int (f4_0 z (4 : Int32))), (.int (0 : Int32)), (.ref b)]))
  obtain ⟨_, _, ⟨T502, L502, k502, n502⟩, -, X502, ⟨Lc502, hQ502, l502, y502, z502⟩, st502⟩ := Jvm.LawKit.callS X501 hx (y := (⟨"com/example/weftline/weftline/runner/BodyMorePinLaw", "after", "([BII)I"⟩ : MethodName)) hown (mvT hZ (hw _ (List.mem_of_getElem? (i := 25) rfl))) (mvT hZ (hw _ (List.mem_of_getElem? (i := 26) rfl))) (mvT hZ (hw _ (List.mem_of_getElem? (i := 27) rfl))) (mvT hZ (hw _ (List.mem_of_getElem? (i := 28) rfl))) (by decide) (backOf (W := 0) (rm5 l Z a0 hw [] b (0 : Int32) (f4_0 z (4 : Int32)) f hh n0 Z0 A_0) hZ (hw _ (List.mem_of_getElem? (i := 28) rfl)) (hw _ (List.mem_of_getElem? (i := 27) rfl)) (by decide) (by decide)) (g := (mkF m 112 #[.val (.int p0), .val (.int p1), .val (.int p2), .val (.int p3), .val (.int p4), .val (.int p5), .val (.ref b), .val (.int z), .val (.ref o), .val (.int (f3_0 (0 : Int32) z)), .val (.int (1 : Int32)), .val (.int (f4_0 z (4 : Int32))), .unset, .unset, .unset] [(.int (f4_0 z (4 : Int32))), (.int (0 : Int32)), (.ref b)])) rfl (by rw [hml]; rfl) (argsL := [(.ref b), (.int (0 : Int32)), (.int (f4_0 z (4 : Int32)))]) (rest := []) (lenOf pd0_0 rfl) rfl (by show 2 * 0 + _ ≤ _; exact Nat.le_of_eq rfl) (hb hby at_112) (fun _ _ => ⟨rfl, e501, (by decide : 2 + 0 ≤ _), (by decide : 7 + 0 ≤ _)⟩)
  dsimp only [Pt.U, Pt.locs, Pt.cells, Pt.slots] at X502 l502 y502 z502 st502 hQ502
  subst l502 y502 z502
  obtain ⟨rfl, N502q, e502⟩ := hQ502
  have N502 := Fr.app N501 N502q
  refine own_step st502 ?_
  show own_Ends p e below s _ _ _ (T502.setTop (mkF m 115 #[.val (.int p0), .val (.int p1), .val (.int p2), .val (.int p3), .val (.int p4), .val (.int p5), .val (.ref b), .val (.int z), .val (.ref o), .val (.int (f3_0 (0 : Int32) z)), .val (.int (1 : Int32)), .val (.int (f4_0 z (4 : Int32))), .unset, .unset, .unset] [(.int (own_g0 f (0 : Int32) (f4_0 z (4 : Int32))))]))
  generalize hz115 : (own_g0 f (0 : Int32) (f4_0 z (4 : Int32))) = z115
  show own_Ends p e below s _ _ _ (T502.setTop (mkF m 115 #[.val (.int p0), .val (.int p1), .val (.int p2), .val (.int p3), .val (.int p4), .val (.int p5), .val (.ref b), .val (.int z), .val (.ref o), .val (.int (f3_0 (0 : Int32) z)), .val (.int (1 : Int32)), .val (.int (f4_0 z (4 : Int32))), .unset, .unset, .unset] [(.int z115)]))
  refine own_step (fun t k => XS.istore X502.here hx rfl (hb hby at_115) rfl (l' := #[.val (.int p0), .val (.int p1), .val (.int p2), .val (.int p3), .val (.int p4), .val (.int p5), .val (.ref b), .val (.int z), .val (.ref o), .val (.int (f3_0 (0 : Int32) z)), .val (.int (1 : Int32)), .val (.int (f4_0 z (4 : Int32))), .val (.int z115), .unset, .unset]) rfl k) ?_
  show own_Ends p e below s _ _ _ (T502.setTop (mkF m 117 #[.val (.int p0), .val (.int p1), .val (.int p2), .val (.int p3), .val (.int p4), .val (.int p5), .val (.ref b), .val (.int z), .val (.ref o), .val (.int (f3_0 (0 : Int32) z)), .val (.int (1 : Int32)), .val (.int (f4_0 z (4 : Int32))), .val (.int z115), .unset, .unset] []))
  refine own_step (fun t k => XS.iload X502.here hx rfl (hb hby at_117) rfl k) ?_
  show own_Ends p e below s _ _ _ (T502.setTop (mkF m 119 #[.val (.int p0), .val (.int p1), .val (.int p2), .val (.int p3), .val (.int p4), .val (.int p5), .val (.ref b), .val (.int z), .val (.ref o), .val (.int (f3_0 (0 : Int32) z)), .val (.int (1 : Int32)), .val (.int (f4_0 z (4 : Int32))), .val (.int z115), .unset, .unset] [(.int z115)]))
  by_cases hc119_503 : z115 < (0 : Int32)
  · -- z115 < (0 : Int32)
    refine own_step (fun t k => XS.ifNo X502.here hx rfl (hb hby at_119) rfl ((if0 _ _).trans (tlt hc119_503).2.1) k) ?_
    show own_Ends p e below s _ _ _ (T502.setTop (mkF m 122 #[.val (.int p0), .val (.int p1), .val (.int p2), .val (.int p3), .val (.int p4), .val (.int p5), .val (.ref b), .val (.int z), .val (.ref o), .val (.int (f3_0 (0 : Int32) z)), .val (.int (1 : Int32)), .val (.int (f4_0 z (4 : Int32))), .val (.int z115), .unset, .unset] []))
    refine own_step (fun t k => XS.iload X502.here hx rfl (hb hby at_122) rfl k) ?_
    show own_Ends p e below s _ _ _ (T502.setTop (mkF m 124 #[.val (.int p0), .val (.int p1), .val (.int p2), .val (.int p3), .val (.int p4), .val (.int p5), .val (.ref b), .val (.int z), .val (.ref o), .val (.int (f3_0 (0 : Int32) z)), .val (.int (1 : Int32)), .val (.int (f4_0 z (4 : Int32))), .val (.int z115), .unset, .unset] [(.int (1 : Int32))]))
    exact own_retN X502 hx hlk (t := .boolean) hret (by simp) (hb hby at_124) (w := (1 : Int32)) (by decide) ⟨rfl, N502⟩ (by decide) (by decide)
  · -- not z115 < (0 : Int32)
    refine own_step (fun t k => XS.ifYes X502.here hx rfl (pc0 := 119) (pc' := 125) rfl (hb hby at_119) rfl ((if0 _ _).trans (flt hc119_503).2.1) (by decide) (by decide) k) ?_
    show own_Ends p e below s _ _ _ (T502.setTop (mkF m 125 #[.val (.int p0), .val (.int p1), .val (.int p2), .val (.int p3), .val (.int p4), .val (.int p5), .val (.ref b), .val (.int z), .val (.ref o), .val (.int (f3_0 (0 : Int32) z)), .val (.int (1 : Int32)), .val (.int (f4_0 z (4 : Int32))), .val (.int z115), .unset, .unset] []))
    refine own_step (fun t k => XS.aload X502.here hx rfl (hb hby at_125) rfl rfl k) ?_
    show own_Ends p e below s _ _ _ (T502.setTop (mkF m 127 #[.val (.int p0), .val (.int p1), .val (.int p2), .val (.int p3), .val (.int p4), .val (.int p5), .val (.ref b), .val (.int z), .val (.ref o), .val (.int (f3_0 (0 : Int32) z)), .val (.int (1 : Int32)), .val (.int (f4_0 z (4 : Int32))), .val (.int z115), .unset, .unset] [(.ref o)]))
    obtain ⟨j1, hj1⟩ := own_after hz115 (P := 0) (by decide) hc119_503
    obtain ⟨cq504, kq504, q504a, q504b, q504c⟩ := isOf hZ e502 E_0
    obtain ⟨_, _, ⟨T504, L504, k504, n504⟩, -, X504, ⟨Lc504, hQ504, l504, y504, z504⟩, st504⟩ := X502.virtualBack hx (y := (⟨"com/example/weftline/weftline/runner/CompactWire$Body", "varint", "()J"⟩ : MethodName)) (z := (⟨"com/example/weftline/weftline/runner/CompactWire$Body", "varint", "()J"⟩ : MethodName)) hown (mvT hZ (hw _ (List.mem_of_getElem? (i := 32) rfl))) (mvT hZ (hw _ (List.mem_of_getElem? (i := 33) rfl))) (notFace_of_selects (args := #[]) (mvT hZ (hw _ (List.mem_of_getElem? (i := 35) rfl)))) (mvT hZ (hw _ (List.mem_of_getElem? (i := 35) rfl))) (mvT hZ (hw _ (List.mem_of_getElem? (i := 34) rfl))) (by decide) (backOf (W := 0) (rm7 l Z a0 hw [] o b z (0 : Int32) 4 f 0 j1 hh n0 Z0 gn_o E_0 F_b F_n F_p A_0 ne_b_o (by decide) (own_hj hj1) (own_len hj1) (by decide) (own_more hj1) (own_last hj1) (own_nine hj1) (own_end hj1)) hZ (hw _ (List.mem_of_getElem? (i := 36) rfl)) (hw _ (List.mem_of_getElem? (i := 3) rfl)) (by decide) (by decide)) q504a q504c (g := (mkF m 127 #[.val (.int p0), .val (.int p1), .val (.int p2), .val (.int p3), .val (.int p4), .val (.int p5), .val (.ref b), .val (.int z), .val (.ref o), .val (.int (f3_0 (0 : Int32) z)), .val (.int (1 : Int32)), .val (.int (f4_0 z (4 : Int32))), .val (.int z115), .unset, .unset] [(.ref o)])) rfl (by rw [hml]; rfl) (Steps.refl _) (argsL := []) (rest := []) (lenOf pd0_1 rfl) rfl (by show 2 * 0 + _ ≤ _; exact Nat.le_of_eq rfl) (hb hby at_127) (fun _ _ => ⟨rfl, e502, (by decide : 2 + 0 ≤ _), (by decide : 7 + 0 ≤ _)⟩)
    dsimp only [Pt.U, Pt.locs, Pt.cells, Pt.slots] at X504 l504 y504 z504 st504 hQ504
    subst l504 y504 z504
    obtain ⟨rfl, N504q, Z504, K504, E504_0, F504_bytes, F504_end, w504, hw504, F504_position⟩ := hQ504
    have N504 := Fr.app N502 N504q
    have u505 := (A_0.keep K504 (ninS ne_b_o nin0))
    have hww504 : w504 = z115 := own_w hw504 hj1
    rw [hww504] at F504_position
    refine own_step (fun t k => st504.trans k) ?_
    show own_Ends p e below s _ _ _ (T504.setTop (mkF m 130 #[.val (.int p0), .val (.int p1), .val (.int p2), .val (.int p3), .val (.int p4), .val (.int p5), .val (.ref b), .val (.int z), .val (.ref o), .val (.int (f3_0 (0 : Int32) z)), .val (.int (1 : Int32)), .val (.int (f4_0 z (4 : Int32))), .val (.int z115), .unset, .unset] [(.long (own_acc f 0 (j1 + 1)))]))
    refine own_step (fun t k => own_pop2L X504 hx rfl (hb hby at_130) rfl k) ?_
    show own_Ends p e below s _ _ _ (T504.setTop (mkF m 131 #[.val (.int p0), .val (.int p1), .val (.int p2), .val (.int p3), .val (.int p4), .val (.int p5), .val (.ref b), .val (.int z), .val (.ref o), .val (.int (f3_0 (0 : Int32) z)), .val (.int (1 : Int32)), .val (.int (f4_0 z (4 : Int32))), .val (.int z115), .unset, .unset] []))
    refine own_step (fun t k => XS.aload X504.here hx rfl (hb hby at_131) rfl rfl k) ?_
    show own_Ends p e below s _ _ _ (T504.setTop (mkF m 133 #[.val (.int p0), .val (.int p1), .val (.int p2), .val (.int p3), .val (.int p4), .val (.int p5), .val (.ref b), .val (.int z), .val (.ref o), .val (.int (f3_0 (0 : Int32) z)), .val (.int (1 : Int32)), .val (.int (f4_0 z (4 : Int32))), .val (.int z115), .unset, .unset] [(.ref o)]))
    obtain ⟨cq506, kq506, q506a, q506b, q506c⟩ := isOf hZ rfl E504_0
    obtain ⟨_, _, ⟨T506, L506, k506, n506⟩, -, X506, ⟨Lc506, hQ506, l506, y506, z506⟩, st506⟩ := X504.virtualBack hx (y := (⟨"com/example/weftline/weftline/runner/CompactWire$Body", "more", "()Z"⟩ : MethodName)) (z := (⟨"com/example/weftline/weftline/runner/CompactWire$Body", "more", "()Z"⟩ : MethodName)) hown (mvT hZ (hw _ (List.mem_of_getElem? (i := 14) rfl))) (mvT hZ (hw _ (List.mem_of_getElem? (i := 15) rfl))) (notFace_of_selects (args := #[]) (mvT hZ (hw _ (List.mem_of_getElem? (i := 17) rfl)))) (mvT hZ (hw _ (List.mem_of_getElem? (i := 17) rfl))) (mvT hZ (hw _ (List.mem_of_getElem? (i := 16) rfl))) (by decide) (backOf (W := 0) (rm3 l Z a0 hw [] o z115 z T504.heap n0 F504_position F504_end ) hZ (hw _ (List.mem_of_getElem? (i := 18) rfl)) (hw _ (List.mem_of_getElem? (i := 3) rfl)) (by decide) (by decide)) q506a q506c (g := (mkF m 133 #[.val (.int p0), .val (.int p1), .val (.int p2), .val (.int p3), .val (.int p4), .val (.int p5), .val (.ref b), .val (.int z), .val (.ref o), .val (.int (f3_0 (0 : Int32) z)), .val (.int (1 : Int32)), .val (.int (f4_0 z (4 : Int32))), .val (.int z115), .unset, .unset] [(.ref o)])) rfl (by rw [hml]; rfl) (Steps.refl _) (argsL := []) (rest := []) (lenOf pd0_2 rfl) rfl (by show 2 * 0 + _ ≤ _; exact Nat.le_of_eq rfl) (hb hby at_133) (fun _ _ => ⟨rfl, rfl, (by decide : 2 + 0 ≤ _), (by decide : 7 + 0 ≤ _)⟩)
    dsimp only [Pt.U, Pt.locs, Pt.cells, Pt.slots] at X506 l506 y506 z506 st506 hQ506
    subst l506 y506 z506
    obtain ⟨rfl, N506q, e506⟩ := hQ506
    have N506 := Fr.app N504 N506q
    refine own_step (fun t k => st506.trans k) ?_
    show own_Ends p e below s _ _ _ (T506.setTop (mkF m 136 #[.val (.int p0), .val (.int p1), .val (.int p2), .val (.int p3), .val (.int p4), .val (.int p5), .val (.ref b), .val (.int z), .val (.ref o), .val (.int (f3_0 (0 : Int32) z)), .val (.int (1 : Int32)), .val (.int (f4_0 z (4 : Int32))), .val (.int z115), .unset, .unset] [(.int (f3_0 z115 z))]))
    refine own_step (fun t k => XS.istore X506.here hx rfl (hb hby at_136) rfl (l' := #[.val (.int p0), .val (.int p1), .val (.int p2), .val (.int p3), .val (.int p4), .val (.int p5), .val (.ref b), .val (.int z), .val (.ref o), .val (.int (f3_0 (0 : Int32) z)), .val (.int (1 : Int32)), .val (.int (f4_0 z (4 : Int32))), .val (.int z115), .val (.int (f3_0 z115 z)), .unset]) rfl k) ?_
    show own_Ends p e below s _ _ _ (T506.setTop (mkF m 138 #[.val (.int p0), .val (.int p1), .val (.int p2), .val (.int p3), .val (.int p4), .val (.int p5), .val (.ref b), .val (.int z), .val (.ref o), .val (.int (f3_0 (0 : Int32) z)), .val (.int (1 : Int32)), .val (.int (f4_0 z (4 : Int32))), .val (.int z115), .val (.int (f3_0 z115 z)), .unset] []))
    refine own_step (fun t k => XS.iload X506.here hx rfl (hb hby at_138) rfl k) ?_
    show own_Ends p e below s _ _ _ (T506.setTop (mkF m 140 #[.val (.int p0), .val (.int p1), .val (.int p2), .val (.int p3), .val (.int p4), .val (.int p5), .val (.ref b), .val (.int z), .val (.ref o), .val (.int (f3_0 (0 : Int32) z)), .val (.int (1 : Int32)), .val (.int (f4_0 z (4 : Int32))), .val (.int z115), .val (.int (f3_0 z115 z)), .unset] [(.int (1 : Int32))]))
    refine own_step (fun t k => XS.ifNo X506.here hx rfl (hb hby at_140) rfl ((if0 _ _).trans (feq (by decide : ¬ ((1 : Int32) = (0 : Int32)))).1) k) ?_
    show own_Ends p e below s _ _ _ (T506.setTop (mkF m 143 #[.val (.int p0), .val (.int p1), .val (.int p2), .val (.int p3), .val (.int p4), .val (.int p5), .val (.ref b), .val (.int z), .val (.ref o), .val (.int (f3_0 (0 : Int32) z)), .val (.int (1 : Int32)), .val (.int (f4_0 z (4 : Int32))), .val (.int z115), .val (.int (f3_0 z115 z)), .unset] []))
    refine own_step (fun t k => XS.iload X506.here hx rfl (hb hby at_143) rfl k) ?_
    show own_Ends p e below s _ _ _ (T506.setTop (mkF m 145 #[.val (.int p0), .val (.int p1), .val (.int p2), .val (.int p3), .val (.int p4), .val (.int p5), .val (.ref b), .val (.int z), .val (.ref o), .val (.int (f3_0 (0 : Int32) z)), .val (.int (1 : Int32)), .val (.int (f4_0 z (4 : Int32))), .val (.int z115), .val (.int (f3_0 z115 z)), .unset] [(.int (f3_0 z115 z))]))
    refine own_step (fun t k => XS.iload X506.here hx rfl (hb hby at_145) rfl k) ?_
    show own_Ends p e below s _ _ _ (T506.setTop (mkF m 147 #[.val (.int p0), .val (.int p1), .val (.int p2), .val (.int p3), .val (.int p4), .val (.int p5), .val (.ref b), .val (.int z), .val (.ref o), .val (.int (f3_0 (0 : Int32) z)), .val (.int (1 : Int32)), .val (.int (f4_0 z (4 : Int32))), .val (.int z115), .val (.int (f3_0 z115 z)), .unset] [(.int z115), (.int (f3_0 z115 z))]))
    refine own_step (fun t k => XS.iload X506.here hx rfl (hb hby at_147) rfl k) ?_
    show own_Ends p e below s _ _ _ (T506.setTop (mkF m 149 #[.val (.int p0), .val (.int p1), .val (.int p2), .val (.int p3), .val (.int p4), .val (.int p5), .val (.ref b), .val (.int z), .val (.ref o), .val (.int (f3_0 (0 : Int32) z)), .val (.int (1 : Int32)), .val (.int (f4_0 z (4 : Int32))), .val (.int z115), .val (.int (f3_0 z115 z)), .unset] [(.int z), (.int z115), (.int (f3_0 z115 z))]))
    by_cases hc149_507 : z115 < z
    · -- z115 < z
      refine own_step (fun t k => XS.icmpNo X506.here hx rfl (hb hby at_149) rfl (tlt hc149_507).2.1 k) ?_
      show own_Ends p e below s _ _ _ (T506.setTop (mkF m 152 #[.val (.int p0), .val (.int p1), .val (.int p2), .val (.int p3), .val (.int p4), .val (.int p5), .val (.ref b), .val (.int z), .val (.ref o), .val (.int (f3_0 (0 : Int32) z)), .val (.int (1 : Int32)), .val (.int (f4_0 z (4 : Int32))), .val (.int z115), .val (.int (f3_0 z115 z)), .unset] [(.int (f3_0 z115 z))]))
      refine own_step (fun t k => XS.iconst X506.here hx rfl (hb hby at_152) k) ?_
      show own_Ends p e below s _ _ _ (T506.setTop (mkF m 153 #[.val (.int p0), .val (.int p1), .val (.int p2), .val (.int p3), .val (.int p4), .val (.int p5), .val (.ref b), .val (.int z), .val (.ref o), .val (.int (f3_0 (0 : Int32) z)), .val (.int (1 : Int32)), .val (.int (f4_0 z (4 : Int32))), .val (.int z115), .val (.int (f3_0 z115 z)), .unset] [(.int (1 : Int32)), (.int (f3_0 z115 z))]))
      refine own_step (fun t k => XS.goto X506.here hx rfl (pc0 := 153) (pc' := 157) rfl (hb hby at_153) (by decide) (by decide) k) ?_
      show own_Ends p e below s _ _ _ (T506.setTop (mkF m 157 #[.val (.int p0), .val (.int p1), .val (.int p2), .val (.int p3), .val (.int p4), .val (.int p5), .val (.ref b), .val (.int z), .val (.ref o), .val (.int (f3_0 (0 : Int32) z)), .val (.int (1 : Int32)), .val (.int (f4_0 z (4 : Int32))), .val (.int z115), .val (.int (f3_0 z115 z)), .unset] [(.int (1 : Int32)), (.int (f3_0 z115 z))]))
      refine own_step (fun t k => XS.icmpNo X506.here hx rfl (hb hby at_157) rfl (teq (if_pos hc149_507)).2 k) ?_
      show own_Ends p e below s _ _ _ (T506.setTop (mkF m 160 #[.val (.int p0), .val (.int p1), .val (.int p2), .val (.int p3), .val (.int p4), .val (.int p5), .val (.ref b), .val (.int z), .val (.ref o), .val (.int (f3_0 (0 : Int32) z)), .val (.int (1 : Int32)), .val (.int (f4_0 z (4 : Int32))), .val (.int z115), .val (.int (f3_0 z115 z)), .unset] []))
      refine own_step (fun t k => XS.aload X506.here hx rfl (hb hby at_160) rfl rfl k) ?_
      show own_Ends p e below s _ _ _ (T506.setTop (mkF m 162 #[.val (.int p0), .val (.int p1), .val (.int p2), .val (.int p3), .val (.int p4), .val (.int p5), .val (.ref b), .val (.int z), .val (.ref o), .val (.int (f3_0 (0 : Int32) z)), .val (.int (1 : Int32)), .val (.int (f4_0 z (4 : Int32))), .val (.int z115), .val (.int (f3_0 z115 z)), .unset] [(.ref o)]))
      obtain ⟨cq508, kq508, q508a, q508b, q508c⟩ := isOf hZ e506 E504_0
      obtain ⟨_, _, ⟨T508, L508, k508, n508⟩, -, X508, ⟨Lc508, hQ508, l508, y508, z508⟩, st508⟩ := X506.virtualBack hx (y := (⟨"com/example/weftline/weftline/runner/CompactWire$Body", "more", "()Z"⟩ : MethodName)) (z := (⟨"com/example/weftline/weftline/runner/CompactWire$Body", "more", "()Z"⟩ : MethodName)) hown (mvT hZ (hw _ (List.mem_of_getElem? (i := 14) rfl))) (mvT hZ (hw _ (List.mem_of_getElem? (i := 15) rfl))) (notFace_of_selects (args := #[]) (mvT hZ (hw _ (List.mem_of_getElem? (i := 17) rfl)))) (mvT hZ (hw _ (List.mem_of_getElem? (i := 17) rfl))) (mvT hZ (hw _ (List.mem_of_getElem? (i := 16) rfl))) (by decide) (backOf (W := 0) (rm3 l Z a0 hw [] o z115 z T504.heap n0 F504_position F504_end ) hZ (hw _ (List.mem_of_getElem? (i := 18) rfl)) (hw _ (List.mem_of_getElem? (i := 3) rfl)) (by decide) (by decide)) q508a q508c (g := (mkF m 162 #[.val (.int p0), .val (.int p1), .val (.int p2), .val (.int p3), .val (.int p4), .val (.int p5), .val (.ref b), .val (.int z), .val (.ref o), .val (.int (f3_0 (0 : Int32) z)), .val (.int (1 : Int32)), .val (.int (f4_0 z (4 : Int32))), .val (.int z115), .val (.int (f3_0 z115 z)), .unset] [(.ref o)])) rfl (by rw [hml]; rfl) (Steps.refl _) (argsL := []) (rest := []) (lenOf pd0_2 rfl) rfl (by show 2 * 0 + _ ≤ _; exact Nat.le_of_eq rfl) (hb hby at_162) (fun _ _ => ⟨rfl, e506, (by decide : 2 + 0 ≤ _), (by decide : 7 + 0 ≤ _)⟩)
      dsimp only [Pt.U, Pt.locs, Pt.cells, Pt.slots] at X508 l508 y508 z508 st508 hQ508
      subst l508 y508 z508
      obtain ⟨rfl, N508q, e508⟩ := hQ508
      have N508 := Fr.app N506 N508q
      refine own_step (fun t k => st508.trans k) ?_
      show own_Ends p e below s _ _ _ (T508.setTop (mkF m 165 #[.val (.int p0), .val (.int p1), .val (.int p2), .val (.int p3), .val (.int p4), .val (.int p5), .val (.ref b), .val (.int z), .val (.ref o), .val (.int (f3_0 (0 : Int32) z)), .val (.int (1 : Int32)), .val (.int (f4_0 z (4 : Int32))), .val (.int z115), .val (.int (f3_0 z115 z)), .unset] [(.int (f3_0 z115 z))]))
      refine own_step (fun t k => XS.iload X508.here hx rfl (hb hby at_165) rfl k) ?_
      show own_Ends p e below s _ _ _ (T508.setTop (mkF m 167 #[.val (.int p0), .val (.int p1), .val (.int p2), .val (.int p3), .val (.int p4), .val (.int p5), .val (.ref b), .val (.int z), .val (.ref o), .val (.int (f3_0 (0 : Int32) z)), .val (.int (1 : Int32)), .val (.int (f4_0 z (4 : Int32))), .val (.int z115), .val (.int (f3_0 z115 z)), .unset] [(.int (f3_0 z115 z)), (.int (f3_0 z115 z))]))
      refine own_step (fun t k => XS.icmpNo X508.here hx rfl (hb hby at_167) rfl (teq rfl).2 k) ?_
      show own_Ends p e below s _ _ _ (T508.setTop (mkF m 170 #[.val (.int p0), .val (.int p1), .val (.int p2), .val (.int p3), .val (.int p4), .val (.int p5), .val (.ref b), .val (.int z), .val (.ref o), .val (.int (f3_0 (0 : Int32) z)), .val (.int (1 : Int32)), .val (.int (f4_0 z (4 : Int32))), .val (.int z115), .val (.int (f3_0 z115 z)), .unset] []))
      refine own_step (fun t k => XS.iconst X508.here hx rfl (hb hby at_170) k) ?_
      show own_Ends p e below s _ _ _ (T508.setTop (mkF m 171 #[.val (.int p0), .val (.int p1), .val (.int p2), .val (.int p3), .val (.int p4), .val (.int p5), .val (.ref b), .val (.int z), .val (.ref o), .val (.int (f3_0 (0 : Int32) z)), .val (.int (1 : Int32)), .val (.int (f4_0 z (4 : Int32))), .val (.int z115), .val (.int (f3_0 z115 z)), .unset] [(.int (1 : Int32))]))
      refine own_step (fun t k => XS.goto X508.here hx rfl (pc0 := 171) (pc' := 175) rfl (hb hby at_171) (by decide) (by decide) k) ?_
      show own_Ends p e below s _ _ _ (T508.setTop (mkF m 175 #[.val (.int p0), .val (.int p1), .val (.int p2), .val (.int p3), .val (.int p4), .val (.int p5), .val (.ref b), .val (.int z), .val (.ref o), .val (.int (f3_0 (0 : Int32) z)), .val (.int (1 : Int32)), .val (.int (f4_0 z (4 : Int32))), .val (.int z115), .val (.int (f3_0 z115 z)), .unset] [(.int (1 : Int32))]))
      refine own_step (fun t k => XS.istore X508.here hx rfl (hb hby at_175) rfl (l' := #[.val (.int p0), .val (.int p1), .val (.int p2), .val (.int p3), .val (.int p4), .val (.int p5), .val (.ref b), .val (.int z), .val (.ref o), .val (.int (f3_0 (0 : Int32) z)), .val (.int (1 : Int32)), .val (.int (f4_0 z (4 : Int32))), .val (.int z115), .val (.int (f3_0 z115 z)), .unset]) rfl k) ?_
      show own_Ends p e below s _ _ _ (T508.setTop (mkF m 177 #[.val (.int p0), .val (.int p1), .val (.int p2), .val (.int p3), .val (.int p4), .val (.int p5), .val (.ref b), .val (.int z), .val (.ref o), .val (.int (f3_0 (0 : Int32) z)), .val (.int (1 : Int32)), .val (.int (f4_0 z (4 : Int32))), .val (.int z115), .val (.int (f3_0 z115 z)), .unset] []))
      exact law_177 p0 p1 p2 p3 p4 p5 b o z f z115 (0 + j1 + 1) X508 hx hZ hw hby hml hown hret hlk e508 N508 Z504 u505 E504_0 F504_bytes F504_end F504_position gn_o ne_b_o hj1.1
    · -- not z115 < z
      refine own_step (fun t k => XS.icmpYes X506.here hx rfl (pc0 := 149) (pc' := 156) rfl (hb hby at_149) rfl (flt hc149_507).2.1 (by decide) (by decide) k) ?_
      show own_Ends p e below s _ _ _ (T506.setTop (mkF m 156 #[.val (.int p0), .val (.int p1), .val (.int p2), .val (.int p3), .val (.int p4), .val (.int p5), .val (.ref b), .val (.int z), .val (.ref o), .val (.int (f3_0 (0 : Int32) z)), .val (.int (1 : Int32)), .val (.int (f4_0 z (4 : Int32))), .val (.int z115), .val (.int (f3_0 z115 z)), .unset] [(.int (f3_0 z115 z))]))
      refine own_step (fun t k => XS.iconst X506.here hx rfl (hb hby at_156) k) ?_
      show own_Ends p e below s _ _ _ (T506.setTop (mkF m 157 #[.val (.int p0), .val (.int p1), .val (.int p2), .val (.int p3), .val (.int p4), .val (.int p5), .val (.ref b), .val (.int z), .val (.ref o), .val (.int (f3_0 (0 : Int32) z)), .val (.int (1 : Int32)), .val (.int (f4_0 z (4 : Int32))), .val (.int z115), .val (.int (f3_0 z115 z)), .unset] [(.int (0 : Int32)), (.int (f3_0 z115 z))]))
      refine own_step (fun t k => XS.icmpNo X506.here hx rfl (hb hby at_157) rfl (teq (if_neg hc149_507)).2 k) ?_
      show own_Ends p e below s _ _ _ (T506.setTop (mkF m 160 #[.val (.int p0), .val (.int p1), .val (.int p2), .val (.int p3), .val (.int p4), .val (.int p5), .val (.ref b), .val (.int z), .val (.ref o), .val (.int (f3_0 (0 : Int32) z)), .val (.int (1 : Int32)), .val (.int (f4_0 z (4 : Int32))), .val (.int z115), .val (.int (f3_0 z115 z)), .unset] []))
      refine own_step (fun t k => XS.aload X506.here hx rfl (hb hby at_160) rfl rfl k) ?_
      show own_Ends p e below s _ _ _ (T506.setTop (mkF m 162 #[.val (.int p0), .val (.int p1), .val (.int p2), .val (.int p3), .val (.int p4), .val (.int p5), .val (.ref b), .val (.int z), .val (.ref o), .val (.int (f3_0 (0 : Int32) z)), .val (.int (1 : Int32)), .val (.int (f4_0 z (4 : Int32))), .val (.int z115), .val (.int (f3_0 z115 z)), .unset] [(.ref o)]))
      obtain ⟨cq509, kq509, q509a, q509b, q509c⟩ := isOf hZ e506 E504_0
      obtain ⟨_, _, ⟨T509, L509, k509, n509⟩, -, X509, ⟨Lc509, hQ509, l509, y509, z509⟩, st509⟩ := X506.virtualBack hx (y := (⟨"com/example/weftline/weftline/runner/CompactWire$Body", "more", "()Z"⟩ : MethodName)) (z := (⟨"com/example/weftline/weftline/runner/CompactWire$Body", "more", "()Z"⟩ : MethodName)) hown (mvT hZ (hw _ (List.mem_of_getElem? (i := 14) rfl))) (mvT hZ (hw _ (List.mem_of_getElem? (i := 15) rfl))) (notFace_of_selects (args := #[]) (mvT hZ (hw _ (List.mem_of_getElem? (i := 17) rfl)))) (mvT hZ (hw _ (List.mem_of_getElem? (i := 17) rfl))) (mvT hZ (hw _ (List.mem_of_getElem? (i := 16) rfl))) (by decide) (backOf (W := 0) (rm3 l Z a0 hw [] o z115 z T504.heap n0 F504_position F504_end ) hZ (hw _ (List.mem_of_getElem? (i := 18) rfl)) (hw _ (List.mem_of_getElem? (i := 3) rfl)) (by decide) (by decide)) q509a q509c (g := (mkF m 162 #[.val (.int p0), .val (.int p1), .val (.int p2), .val (.int p3), .val (.int p4), .val (.int p5), .val (.ref b), .val (.int z), .val (.ref o), .val (.int (f3_0 (0 : Int32) z)), .val (.int (1 : Int32)), .val (.int (f4_0 z (4 : Int32))), .val (.int z115), .val (.int (f3_0 z115 z)), .unset] [(.ref o)])) rfl (by rw [hml]; rfl) (Steps.refl _) (argsL := []) (rest := []) (lenOf pd0_2 rfl) rfl (by show 2 * 0 + _ ≤ _; exact Nat.le_of_eq rfl) (hb hby at_162) (fun _ _ => ⟨rfl, e506, (by decide : 2 + 0 ≤ _), (by decide : 7 + 0 ≤ _)⟩)
      dsimp only [Pt.U, Pt.locs, Pt.cells, Pt.slots] at X509 l509 y509 z509 st509 hQ509
      subst l509 y509 z509
      obtain ⟨rfl, N509q, e509⟩ := hQ509
      have N509 := Fr.app N506 N509q
      refine own_step (fun t k => st509.trans k) ?_
      show own_Ends p e below s _ _ _ (T509.setTop (mkF m 165 #[.val (.int p0), .val (.int p1), .val (.int p2), .val (.int p3), .val (.int p4), .val (.int p5), .val (.ref b), .val (.int z), .val (.ref o), .val (.int (f3_0 (0 : Int32) z)), .val (.int (1 : Int32)), .val (.int (f4_0 z (4 : Int32))), .val (.int z115), .val (.int (f3_0 z115 z)), .unset] [(.int (f3_0 z115 z))]))
      refine own_step (fun t k => XS.iload X509.here hx rfl (hb hby at_165) rfl k) ?_
      show own_Ends p e below s _ _ _ (T509.setTop (mkF m 167 #[.val (.int p0), .val (.int p1), .val (.int p2), .val (.int p3), .val (.int p4), .val (.int p5), .val (.ref b), .val (.int z), .val (.ref o), .val (.int (f3_0 (0 : Int32) z)), .val (.int (1 : Int32)), .val (.int (f4_0 z (4 : Int32))), .val (.int z115), .val (.int (f3_0 z115 z)), .unset] [(.int (f3_0 z115 z)), (.int (f3_0 z115 z))]))
      refine own_step (fun t k => XS.icmpNo X509.here hx rfl (hb hby at_167) rfl (teq rfl).2 k) ?_
      show own_Ends p e below s _ _ _ (T509.setTop (mkF m 170 #[.val (.int p0), .val (.int p1), .val (.int p2), .val (.int p3), .val (.int p4), .val (.int p5), .val (.ref b), .val (.int z), .val (.ref o), .val (.int (f3_0 (0 : Int32) z)), .val (.int (1 : Int32)), .val (.int (f4_0 z (4 : Int32))), .val (.int z115), .val (.int (f3_0 z115 z)), .unset] []))
      refine own_step (fun t k => XS.iconst X509.here hx rfl (hb hby at_170) k) ?_
      show own_Ends p e below s _ _ _ (T509.setTop (mkF m 171 #[.val (.int p0), .val (.int p1), .val (.int p2), .val (.int p3), .val (.int p4), .val (.int p5), .val (.ref b), .val (.int z), .val (.ref o), .val (.int (f3_0 (0 : Int32) z)), .val (.int (1 : Int32)), .val (.int (f4_0 z (4 : Int32))), .val (.int z115), .val (.int (f3_0 z115 z)), .unset] [(.int (1 : Int32))]))
      refine own_step (fun t k => XS.goto X509.here hx rfl (pc0 := 171) (pc' := 175) rfl (hb hby at_171) (by decide) (by decide) k) ?_
      show own_Ends p e below s _ _ _ (T509.setTop (mkF m 175 #[.val (.int p0), .val (.int p1), .val (.int p2), .val (.int p3), .val (.int p4), .val (.int p5), .val (.ref b), .val (.int z), .val (.ref o), .val (.int (f3_0 (0 : Int32) z)), .val (.int (1 : Int32)), .val (.int (f4_0 z (4 : Int32))), .val (.int z115), .val (.int (f3_0 z115 z)), .unset] [(.int (1 : Int32))]))
      refine own_step (fun t k => XS.istore X509.here hx rfl (hb hby at_175) rfl (l' := #[.val (.int p0), .val (.int p1), .val (.int p2), .val (.int p3), .val (.int p4), .val (.int p5), .val (.ref b), .val (.int z), .val (.ref o), .val (.int (f3_0 (0 : Int32) z)), .val (.int (1 : Int32)), .val (.int (f4_0 z (4 : Int32))), .val (.int z115), .val (.int (f3_0 z115 z)), .unset]) rfl k) ?_
      show own_Ends p e below s _ _ _ (T509.setTop (mkF m 177 #[.val (.int p0), .val (.int p1), .val (.int p2), .val (.int p3), .val (.int p4), .val (.int p5), .val (.ref b), .val (.int z), .val (.ref o), .val (.int (f3_0 (0 : Int32) z)), .val (.int (1 : Int32)), .val (.int (f4_0 z (4 : Int32))), .val (.int z115), .val (.int (f3_0 z115 z)), .unset] []))
      exact law_177 p0 p1 p2 p3 p4 p5 b o z f z115 (0 + j1 + 1) X509 hx hZ hw hby hml hown hret hlk e509 N509 Z504 u505 E504_0 F504_bytes F504_end F504_position gn_o ne_b_o hj1.1
set_option maxRecDepth 65536 in
set_option maxHeartbeats 40000000 in
theorem law_46 {p : Program} {l : Launch} {e : Env} {s : State} {m : MethodId} {args : Array Value} {below : List Frame} {meth : Method} {c : Code} {T : State} {locs : List Loc} {Z : State} {a0 : Array Value} {hh : Heap} {n0 : Nat} (p0 : Int32) (p1 : Int32) (p2 : Int32) (p3 : Int32) (p4 : Int32) (p5 : Int32) (b : Addr) (z : Int32) (f : Nat → Int32)
    (X0 : Stand p l e room_1 s m args below meth c T locs 1 4) (hx : p.tables.exec = Jvm.exec) (hZ : Z.Warmed39 s.vm) (hw : ∀ d ∈ tables_1, d.before a0 Z = true) (hby : c.code = code) (hml : c.maxLocals = 15) (hown : s.vm.findClass "com/example/weftline/weftline/runner/BodyMorePinLaw" = some m.cls) (hret : meth.sig.returnType = ret) (hlk : meth.locks = false) (e0 : T.heap = hh) (N0 : Fr n0 locs) (Z0 : n0 ≤ hh.size) (A_0 : own_AI Z hh b .byte 4 f) :
    own_Ends p e below s 16 128 (fun v h L => v = some (.int 1) ∧ Fr n0 L) (T.setTop (mkF m 46 #[.val (.int p0), .val (.int p1), .val (.int p2), .val (.int p3), .val (.int p4), .val (.int p5), .val (.ref b), .val (.int z), .unset, .unset, .unset, .unset, .unset, .unset, .unset] [])) := by
  show own_Ends p e below s _ _ _ (T.setTop (mkF m 46 #[.val (.int p0), .val (.int p1), .val (.int p2), .val (.int p3), .val (.int p4), .val (.int p5), .val (.ref b), .val (.int z), .unset, .unset, .unset, .unset, .unset, .unset, .unset] []))
  obtain ⟨T501, h501, X501, e501, E501, A501, D501, -, st501⟩ := newO X0 hx hZ hown (hw _ (List.mem_of_getElem? (i := 1) rfl)) (hw _ (List.mem_of_getElem? (i := 2) rfl)) (hw _ (List.mem_of_getElem? (i := 3) rfl)) e0 (g := (mkF m 46 #[.val (.int p0), .val (.int p1), .val (.int p2), .val (.int p3), .val (.int p4), .val (.int p5), .val (.ref b), .val (.int z), .unset, .unset, .unset, .unset, .unset, .unset, .unset] [])) rfl (hb hby at_46) (by decide) (by decide)
  obtain ⟨b501, g501⟩ : ∃ z, z = hh.size := ⟨_, rfl⟩
  rw [← g501] at A501 D501 st501
  have ne_b_b501 : b ≠ b501 := Nat.ne_of_lt (Nat.lt_of_lt_of_le A_0.lt (Nat.le_of_eq g501.symm))
  have gn_b501 : n0 ≤ b501 := Nat.le_trans Z0 (Nat.le_of_eq g501.symm)
  have Z501 : n0 ≤ h501.size := Nat.le_trans Z0 E501.1
  have u502 := (A_0.ext E501)
  have F501_bytes : Fld Z h501 b501 "com/example/weftline/weftline/runner/CompactWire$Body" "bytes" "[B" .null := D501 (Or.inr (hw _ (List.mem_of_getElem? (i := 11) rfl))) (ty := (.array .byte)) (by decide)
  have F501_end : Fld Z h501 b501 "com/example/weftline/weftline/runner/CompactWire$Body" "end" "I" (.int (0 : Int32)) := D501 (Or.inr (hw _ (List.mem_of_getElem? (i := 13) rfl))) (ty := .int) (by decide)
  have F501_position : Fld Z h501 b501 "com/example/weftline/weftline/runner/CompactWire$Body" "position" "I" (.int (0 : Int32)) := D501 (Or.inl (hw _ (List.mem_of_getElem? (i := 20) rfl))) (ty := .int) (by decide)
  refine own_step st501 ?_
  show own_Ends p e below s _ _ _ (T501.setTop (mkF m 49 #[.val (.int p0), .val (.int p1), .val (.int p2), .val (.int p3), .val (.int p4), .val (.int p5), .val (.ref b), .val (.int z), .unset, .unset, .unset, .unset, .unset, .unset, .unset] [(.ref b501)]))
  refine own_step (fun t k => XS.dup X501.here hx rfl (hb hby at_49) rfl rfl k) ?_
  show own_Ends p e below s _ _ _ (T501.setTop (mkF m 50 #[.val (.int p0), .val (.int p1), .val (.int p2), .val (.int p3), .val (.int p4), .val (.int p5), .val (.ref b), .val (.int z), .unset, .unset, .unset, .unset, .unset, .unset, .unset] [(.ref b501), (.ref b501)]))
  refine own_step (fun t k => XS.aload X501.here hx rfl (hb hby at_50) rfl rfl k) ?_
  show own_Ends p e below s _ _ _ (T501.setTop (mkF m 52 #[.val (.int p0), .val (.int p1), .val (.int p2), .val (.int p3), .val (.int p4), .val (.int p5), .val (.ref b), .val (.int z), .unset, .unset, .unset, .unset, .unset, .unset, .unset] [(.ref b), (.ref b501), (.ref b501)]))
  refine own_step (fun t k => XS.iload X501.here hx rfl (hb hby at_52) rfl k) ?_
  show own_Ends p e below s _ _ _ (T501.setTop (mkF m 54 #[.val (.int p0), .val (.int p1), .val (.int p2), .val (.int p3), .val (.int p4), .val (.int p5), .val (.ref b), .val (.int z), .unset, .unset, .unset, .unset, .unset, .unset, .unset] [(.int z), (.ref b), (.ref b501), (.ref b501)]))
  obtain ⟨_, _, ⟨T503, L503, k503, n503⟩, -, X503, ⟨Lc503, hQ503, l503, y503, z503⟩, st503⟩ := X501.specialBack hx (y := (⟨"com/example/weftline/weftline/runner/CompactWire$Body", "<init>", "([BI)V"⟩ : MethodName)) rfl hown (mvT hZ (hw _ (List.mem_of_getElem? (i := 4) rfl))) (mvT hZ (hw _ (List.mem_of_getElem? (i := 5) rfl))) (mvT hZ (hw _ (List.mem_of_getElem? (i := 6) rfl))) (by decide) (backOf (W := 1) (rm1 l Z a0 hw [] b501 b z  h501 n0 Z501 gn_b501 A501 F501_bytes F501_end F501_position) hZ (hw _ (List.mem_of_getElem? (i := 6) rfl)) (hw _ (List.mem_of_getElem? (i := 3) rfl)) (by decide) (by decide)) (g := (mkF m 54 #[.val (.int p0), .val (.int p1), .val (.int p2), .val (.int p3), .val (.int p4), .val (.int p5), .val (.ref b), .val (.int z), .unset, .unset, .unset, .unset, .unset, .unset, .unset] [(.int z), (.ref b), (.ref b501), (.ref b501)])) rfl (by rw [hml]; rfl) (Steps.refl _) (a := b501) (argsL := [(.ref b), (.int z)]) (rest := [(.ref b501)]) (lenOf pd0_4 rfl) rfl (by show 2 * 0 + _ ≤ _; exact Nat.le_of_eq rfl) (hb hby at_54) (fun _ _ => ⟨rfl, e501, (by decide : 2 + 0 ≤ _), (by decide : 7 + 0 ≤ _)⟩)
  dsimp only [Pt.U, Pt.locs, Pt.cells, Pt.slots] at X503 l503 y503 z503 st503 hQ503
  subst l503 y503 z503
  obtain ⟨rfl, N503q, Z503, K503, E503_0, F503_bytes, F503_end, F503_position⟩ := hQ503
  have N503 := Fr.app N0 N503q
  have u504 := (u502.keep K503 (ninS ne_b_b501 nin0))
  refine own_step (fun t k => st503.trans k) ?_
  show own_Ends p e below s _ _ _ (T503.setTop (mkF m 57 #[.val (.int p0), .val (.int p1), .val (.int p2), .val (.int p3), .val (.int p4), .val (.int p5), .val (.ref b), .val (.int z), .unset, .unset, .unset, .unset, .unset, .unset, .unset] [(.ref b501)]))
  refine own_step (fun t k => XS.astore X503.here hx rfl (hb hby at_57) rfl rfl (l' := #[.val (.int p0), .val (.int p1), .val (.int p2), .val (.int p3), .val (.int p4), .val (.int p5), .val (.ref b), .val (.int z), .val (.ref b501), .unset, .unset, .unset, .unset, .unset, .unset]) rfl k) ?_
  show own_Ends p e below s _ _ _ (T503.setTop (mkF m 59 #[.val (.int p0), .val (.int p1), .val (.int p2), .val (.int p3), .val (.int p4), .val (.int p5), .val (.ref b), .val (.int z), .val (.ref b501), .unset, .unset, .unset, .unset, .unset, .unset] []))
  refine own_step (fun t k => XS.aload X503.here hx rfl (hb hby at_59) rfl rfl k) ?_
  show own_Ends p e below s _ _ _ (T503.setTop (mkF m 61 #[.val (.int p0), .val (.int p1), .val (.int p2), .val (.int p3), .val (.int p4), .val (.int p5), .val (.ref b), .val (.int z), .val (.ref b501), .unset, .unset, .unset, .unset, .unset, .unset] [(.ref b501)]))
  obtain ⟨cq505, kq505, q505a, q505b, q505c⟩ := isOf hZ rfl E503_0
  obtain ⟨_, _, ⟨T505, L505, k505, n505⟩, -, X505, ⟨Lc505, hQ505, l505, y505, z505⟩, st505⟩ := X503.virtualBack hx (y := (⟨"com/example/weftline/weftline/runner/CompactWire$Body", "more", "()Z"⟩ : MethodName)) (z := (⟨"com/example/weftline/weftline/runner/CompactWire$Body", "more", "()Z"⟩ : MethodName)) hown (mvT hZ (hw _ (List.mem_of_getElem? (i := 14) rfl))) (mvT hZ (hw _ (List.mem_of_getElem? (i := 15) rfl))) (notFace_of_selects (args := #[]) (mvT hZ (hw _ (List.mem_of_getElem? (i := 17) rfl)))) (mvT hZ (hw _ (List.mem_of_getElem? (i := 17) rfl))) (mvT hZ (hw _ (List.mem_of_getElem? (i := 16) rfl))) (by decide) (backOf (W := 0) (rm3 l Z a0 hw [] b501 (0 : Int32) z T503.heap n0 F503_position F503_end ) hZ (hw _ (List.mem_of_getElem? (i := 18) rfl)) (hw _ (List.mem_of_getElem? (i := 3) rfl)) (by decide) (by decide)) q505a q505c (g := (mkF m 61 #[.val (.int p0), .val (.int p1), .val (.int p2), .val (.int p3), .val (.int p4), .val (.int p5), .val (.ref b), .val (.int z), .val (.ref b501), .unset, .unset, .unset, .unset, .unset, .unset] [(.ref b501)])) rfl (by rw [hml]; rfl) (Steps.refl _) (argsL := []) (rest := []) (lenOf pd0_2 rfl) rfl (by show 2 * 0 + _ ≤ _; exact Nat.le_of_eq rfl) (hb hby at_61) (fun _ _ => ⟨rfl, rfl, (by decide : 2 + 0 ≤ _), (by decide : 7 + 0 ≤ _)⟩)
  dsimp only [Pt.U, Pt.locs, Pt.cells, Pt.slots] at X505 l505 y505 z505 st505 hQ505
  subst l505 y505 z505
  obtain ⟨rfl, N505q, e505⟩ := hQ505
  have N505 := Fr.app N503 N505q
  refine own_step (fun t k => st505.trans k) ?_
  show own_Ends p e below s _ _ _ (T505.setTop (mkF m 64 #[.val (.int p0), .val (.int p1), .val (.int p2), .val (.int p3), .val (.int p4), .val (.int p5), .val (.ref b), .val (.int z), .val (.ref b501), .unset, .unset, .unset, .unset, .unset, .unset] [(.int (f3_0 (0 : Int32) z))]))
  refine own_step (fun t k => XS.istore X505.here hx rfl (hb hby at_64) rfl (l' := #[.val (.int p0), .val (.int p1), .val (.int p2), .val (.int p3), .val (.int p4), .val (.int p5), .val (.ref b), .val (.int z), .val (.ref b501), .val (.int (f3_0 (0 : Int32) z)), .unset, .unset, .unset, .unset, .unset]) rfl k) ?_
  show own_Ends p e below s _ _ _ (T505.setTop (mkF m 66 #[.val (.int p0), .val (.int p1), .val (.int p2), .val (.int p3), .val (.int p4), .val (.int p5), .val (.ref b), .val (.int z), .val (.ref b501), .val (.int (f3_0 (0 : Int32) z)), .unset, .unset, .unset, .unset, .unset] []))
  refine own_step (fun t k => XS.iload X505.here hx rfl (hb hby at_66) rfl k) ?_
  show own_Ends p e below s _ _ _ (T505.setTop (mkF m 68 #[.val (.int p0), .val (.int p1), .val (.int p2), .val (.int p3), .val (.int p4), .val (.int p5), .val (.ref b), .val (.int z), .val (.ref b501), .val (.int (f3_0 (0 : Int32) z)), .unset, .unset, .unset, .unset, .unset] [(.int (f3_0 (0 : Int32) z))]))
  refine own_step (fun t k => XS.iconst X505.here hx rfl (hb hby at_68) k) ?_
  show own_Ends p e below s _ _ _ (T505.setTop (mkF m 69 #[.val (.int p0), .val (.int p1), .val (.int p2), .val (.int p3), .val (.int p4), .val (.int p5), .val (.ref b), .val (.int z), .val (.ref b501), .val (.int (f3_0 (0 : Int32) z)), .unset, .unset, .unset, .unset, .unset] [(.int (0 : Int32)), (.int (f3_0 (0 : Int32) z))]))
  refine own_step (fun t k => XS.iload X505.here hx rfl (hb hby at_69) rfl k) ?_
  show own_Ends p e below s _ _ _ (T505.setTop (mkF m 71 #[.val (.int p0), .val (.int p1), .val (.int p2), .val (.int p3), .val (.int p4), .val (.int p5), .val (.ref b), .val (.int z), .val (.ref b501), .val (.int (f3_0 (0 : Int32) z)), .unset, .unset, .unset, .unset, .unset] [(.int z), (.int (0 : Int32)), (.int (f3_0 (0 : Int32) z))]))
  by_cases hc71_506 : (0 : Int32) < z
  · -- (0 : Int32) < z
    refine own_step (fun t k => XS.icmpNo X505.here hx rfl (hb hby at_71) rfl (tlt hc71_506).2.1 k) ?_
    show own_Ends p e below s _ _ _ (T505.setTop (mkF m 74 #[.val (.int p0), .val (.int p1), .val (.int p2), .val (.int p3), .val (.int p4), .val (.int p5), .val (.ref b), .val (.int z), .val (.ref b501), .val (.int (f3_0 (0 : Int32) z)), .unset, .unset, .unset, .unset, .unset] [(.int (f3_0 (0 : Int32) z))]))
    refine own_step (fun t k => XS.iconst X505.here hx rfl (hb hby at_74) k) ?_
    show own_Ends p e below s _ _ _ (T505.setTop (mkF m 75 #[.val (.int p0), .val (.int p1), .val (.int p2), .val (.int p3), .val (.int p4), .val (.int p5), .val (.ref b), .val (.int z), .val (.ref b501), .val (.int (f3_0 (0 : Int32) z)), .unset, .unset, .unset, .unset, .unset] [(.int (1 : Int32)), (.int (f3_0 (0 : Int32) z))]))
    refine own_step (fun t k => XS.goto X505.here hx rfl (pc0 := 75) (pc' := 79) rfl (hb hby at_75) (by decide) (by decide) k) ?_
    show own_Ends p e below s _ _ _ (T505.setTop (mkF m 79 #[.val (.int p0), .val (.int p1), .val (.int p2), .val (.int p3), .val (.int p4), .val (.int p5), .val (.ref b), .val (.int z), .val (.ref b501), .val (.int (f3_0 (0 : Int32) z)), .unset, .unset, .unset, .unset, .unset] [(.int (1 : Int32)), (.int (f3_0 (0 : Int32) z))]))
    refine own_step (fun t k => XS.icmpNo X505.here hx rfl (hb hby at_79) rfl (teq (if_pos hc71_506)).2 k) ?_
    show own_Ends p e below s _ _ _ (T505.setTop (mkF m 82 #[.val (.int p0), .val (.int p1), .val (.int p2), .val (.int p3), .val (.int p4), .val (.int p5), .val (.ref b), .val (.int z), .val (.ref b501), .val (.int (f3_0 (0 : Int32) z)), .unset, .unset, .unset, .unset, .unset] []))
    refine own_step (fun t k => XS.aload X505.here hx rfl (hb hby at_82) rfl rfl k) ?_
    show own_Ends p e below s _ _ _ (T505.setTop (mkF m 84 #[.val (.int p0), .val (.int p1), .val (.int p2), .val (.int p3), .val (.int p4), .val (.int p5), .val (.ref b), .val (.int z), .val (.ref b501), .val (.int (f3_0 (0 : Int32) z)), .unset, .unset, .unset, .unset, .unset] [(.ref b501)]))
    obtain ⟨cq507, kq507, q507a, q507b, q507c⟩ := isOf hZ e505 E503_0
    obtain ⟨_, _, ⟨T507, L507, k507, n507⟩, -, X507, ⟨Lc507, hQ507, l507, y507, z507⟩, st507⟩ := X505.virtualBack hx (y := (⟨"com/example/weftline/weftline/runner/CompactWire$Body", "more", "()Z"⟩ : MethodName)) (z := (⟨"com/example/weftline/weftline/runner/CompactWire$Body", "more", "()Z"⟩ : MethodName)) hown (mvT hZ (hw _ (List.mem_of_getElem? (i := 14) rfl))) (mvT hZ (hw _ (List.mem_of_getElem? (i := 15) rfl))) (notFace_of_selects (args := #[]) (mvT hZ (hw _ (List.mem_of_getElem? (i := 17) rfl)))) (mvT hZ (hw _ (List.mem_of_getElem? (i := 17) rfl))) (mvT hZ (hw _ (List.mem_of_getElem? (i := 16) rfl))) (by decide) (backOf (W := 0) (rm3 l Z a0 hw [] b501 (0 : Int32) z T503.heap n0 F503_position F503_end ) hZ (hw _ (List.mem_of_getElem? (i := 18) rfl)) (hw _ (List.mem_of_getElem? (i := 3) rfl)) (by decide) (by decide)) q507a q507c (g := (mkF m 84 #[.val (.int p0), .val (.int p1), .val (.int p2), .val (.int p3), .val (.int p4), .val (.int p5), .val (.ref b), .val (.int z), .val (.ref b501), .val (.int (f3_0 (0 : Int32) z)), .unset, .unset, .unset, .unset, .unset] [(.ref b501)])) rfl (by rw [hml]; rfl) (Steps.refl _) (argsL := []) (rest := []) (lenOf pd0_2 rfl) rfl (by show 2 * 0 + _ ≤ _; exact Nat.le_of_eq rfl) (hb hby at_84) (fun _ _ => ⟨rfl, e505, (by decide : 2 + 0 ≤ _), (by decide : 7 + 0 ≤ _)⟩)
    dsimp only [Pt.U, Pt.locs, Pt.cells, Pt.slots] at X507 l507 y507 z507 st507 hQ507
    subst l507 y507 z507
    obtain ⟨rfl, N507q, e507⟩ := hQ507
    have N507 := Fr.app N505 N507q
    refine own_step (fun t k => st507.trans k) ?_
    show own_Ends p e below s _ _ _ (T507.setTop (mkF m 87 #[.val (.int p0), .val (.int p1), .val (.int p2), .val (.int p3), .val (.int p4), .val (.int p5), .val (.ref b), .val (.int z), .val (.ref b501), .val (.int (f3_0 (0 : Int32) z)), .unset, .unset, .unset, .unset, .unset] [(.int (f3_0 (0 : Int32) z))]))
    refine own_step (fun t k => XS.iload X507.here hx rfl (hb hby at_87) rfl k) ?_
    show own_Ends p e below s _ _ _ (T507.setTop (mkF m 89 #[.val (.int p0), .val (.int p1), .val (.int p2), .val (.int p3), .val (.int p4), .val (.int p5), .val (.ref b), .val (.int z), .val (.ref b501), .val (.int (f3_0 (0 : Int32) z)), .unset, .unset, .unset, .unset, .unset] [(.int (f3_0 (0 : Int32) z)), (.int (f3_0 (0 : Int32) z))]))
    refine own_step (fun t k => XS.icmpNo X507.here hx rfl (hb hby at_89) rfl (teq rfl).2 k) ?_
    show own_Ends p e below s _ _ _ (T507.setTop (mkF m 92 #[.val (.int p0), .val (.int p1), .val (.int p2), .val (.int p3), .val (.int p4), .val (.int p5), .val (.ref b), .val (.int z), .val (.ref b501), .val (.int (f3_0 (0 : Int32) z)), .unset, .unset, .unset, .unset, .unset] []))
    refine own_step (fun t k => XS.iconst X507.here hx rfl (hb hby at_92) k) ?_
    show own_Ends p e below s _ _ _ (T507.setTop (mkF m 93 #[.val (.int p0), .val (.int p1), .val (.int p2), .val (.int p3), .val (.int p4), .val (.int p5), .val (.ref b), .val (.int z), .val (.ref b501), .val (.int (f3_0 (0 : Int32) z)), .unset, .unset, .unset, .unset, .unset] [(.int (1 : Int32))]))
    refine own_step (fun t k => XS.goto X507.here hx rfl (pc0 := 93) (pc' := 97) rfl (hb hby at_93) (by decide) (by decide) k) ?_
    show own_Ends p e below s _ _ _ (T507.setTop (mkF m 97 #[.val (.int p0), .val (.int p1), .val (.int p2), .val (.int p3), .val (.int p4), .val (.int p5), .val (.ref b), .val (.int z), .val (.ref b501), .val (.int (f3_0 (0 : Int32) z)), .unset, .unset, .unset, .unset, .unset] [(.int (1 : Int32))]))
    refine own_step (fun t k => XS.istore X507.here hx rfl (hb hby at_97) rfl (l' := #[.val (.int p0), .val (.int p1), .val (.int p2), .val (.int p3), .val (.int p4), .val (.int p5), .val (.ref b), .val (.int z), .val (.ref b501), .val (.int (f3_0 (0 : Int32) z)), .val (.int (1 : Int32)), .unset, .unset, .unset, .unset]) rfl k) ?_
    show own_Ends p e below s _ _ _ (T507.setTop (mkF m 99 #[.val (.int p0), .val (.int p1), .val (.int p2), .val (.int p3), .val (.int p4), .val (.int p5), .val (.ref b), .val (.int z), .val (.ref b501), .val (.int (f3_0 (0 : Int32) z)), .val (.int (1 : Int32)), .unset, .unset, .unset, .unset] []))
    exact law_99 p0 p1 p2 p3 p4 p5 b b501 z f X507 hx hZ hw hby hml hown hret hlk e507 N507 Z503 u504 E503_0 F503_bytes F503_end F503_position gn_b501 ne_b_b501
  · -- not (0 : Int32) < z
    refine own_step (fun t k => XS.icmpYes X505.here hx rfl (pc0 := 71) (pc' := 78) rfl (hb hby at_71) rfl (flt hc71_506).2.1 (by decide) (by decide) k) ?_
    show own_Ends p e below s _ _ _ (T505.setTop (mkF m 78 #[.val (.int p0), .val (.int p1), .val (.int p2), .val (.int p3), .val (.int p4), .val (.int p5), .val (.ref b), .val (.int z), .val (.ref b501), .val (.int (f3_0 (0 : Int32) z)), .unset, .unset, .unset, .unset, .unset] [(.int (f3_0 (0 : Int32) z))]))
    refine own_step (fun t k => XS.iconst X505.here hx rfl (hb hby at_78) k) ?_
    show own_Ends p e below s _ _ _ (T505.setTop (mkF m 79 #[.val (.int p0), .val (.int p1), .val (.int p2), .val (.int p3), .val (.int p4), .val (.int p5), .val (.ref b), .val (.int z), .val (.ref b501), .val (.int (f3_0 (0 : Int32) z)), .unset, .unset, .unset, .unset, .unset] [(.int (0 : Int32)), (.int (f3_0 (0 : Int32) z))]))
    refine own_step (fun t k => XS.icmpNo X505.here hx rfl (hb hby at_79) rfl (teq (if_neg hc71_506)).2 k) ?_
    show own_Ends p e below s _ _ _ (T505.setTop (mkF m 82 #[.val (.int p0), .val (.int p1), .val (.int p2), .val (.int p3), .val (.int p4), .val (.int p5), .val (.ref b), .val (.int z), .val (.ref b501), .val (.int (f3_0 (0 : Int32) z)), .unset, .unset, .unset, .unset, .unset] []))
    refine own_step (fun t k => XS.aload X505.here hx rfl (hb hby at_82) rfl rfl k) ?_
    show own_Ends p e below s _ _ _ (T505.setTop (mkF m 84 #[.val (.int p0), .val (.int p1), .val (.int p2), .val (.int p3), .val (.int p4), .val (.int p5), .val (.ref b), .val (.int z), .val (.ref b501), .val (.int (f3_0 (0 : Int32) z)), .unset, .unset, .unset, .unset, .unset] [(.ref b501)]))
    obtain ⟨cq508, kq508, q508a, q508b, q508c⟩ := isOf hZ e505 E503_0
    obtain ⟨_, _, ⟨T508, L508, k508, n508⟩, -, X508, ⟨Lc508, hQ508, l508, y508, z508⟩, st508⟩ := X505.virtualBack hx (y := (⟨"com/example/weftline/weftline/runner/CompactWire$Body", "more", "()Z"⟩ : MethodName)) (z := (⟨"com/example/weftline/weftline/runner/CompactWire$Body", "more", "()Z"⟩ : MethodName)) hown (mvT hZ (hw _ (List.mem_of_getElem? (i := 14) rfl))) (mvT hZ (hw _ (List.mem_of_getElem? (i := 15) rfl))) (notFace_of_selects (args := #[]) (mvT hZ (hw _ (List.mem_of_getElem? (i := 17) rfl)))) (mvT hZ (hw _ (List.mem_of_getElem? (i := 17) rfl))) (mvT hZ (hw _ (List.mem_of_getElem? (i := 16) rfl))) (by decide) (backOf (W := 0) (rm3 l Z a0 hw [] b501 (0 : Int32) z T503.heap n0 F503_position F503_end ) hZ (hw _ (List.mem_of_getElem? (i := 18) rfl)) (hw _ (List.mem_of_getElem? (i := 3) rfl)) (by decide) (by decide)) q508a q508c (g := (mkF m 84 #[.val (.int p0), .val (.int p1), .val (.int p2), .val (.int p3), .val (.int p4), .val (.int p5), .val (.ref b), .val (.int z), .val (.ref b501), .val (.int (f3_0 (0 : Int32) z)), .unset, .unset, .unset, .unset, .unset] [(.ref b501)])) rfl (by rw [hml]; rfl) (Steps.refl _) (argsL := []) (rest := []) (lenOf pd0_2 rfl) rfl (by show 2 * 0 + _ ≤ _; exact Nat.le_of_eq rfl) (hb hby at_84) (fun _ _ => ⟨rfl, e505, (by decide : 2 + 0 ≤ _), (by decide : 7 + 0 ≤ _)⟩)
    dsimp only [Pt.U, Pt.locs, Pt.cells, Pt.slots] at X508 l508 y508 z508 st508 hQ508
    subst l508 y508 z508
    obtain ⟨rfl, N508q, e508⟩ := hQ508
    have N508 := Fr.app N505 N508q
    refine own_step (fun t k => st508.trans k) ?_
    show own_Ends p e below s _ _ _ (T508.setTop (mkF m 87 #[.val (.int p0), .val (.int p1), .val (.int p2), .val (.int p3), .val (.int p4), .val (.int p5), .val (.ref b), .val (.int z), .val (.ref b501), .val (.int (f3_0 (0 : Int32) z)), .unset, .unset, .unset, .unset, .unset] [(.int (f3_0 (0 : Int32) z))]))
    refine own_step (fun t k => XS.iload X508.here hx rfl (hb hby at_87) rfl k) ?_
    show own_Ends p e below s _ _ _ (T508.setTop (mkF m 89 #[.val (.int p0), .val (.int p1), .val (.int p2), .val (.int p3), .val (.int p4), .val (.int p5), .val (.ref b), .val (.int z), .val (.ref b501), .val (.int (f3_0 (0 : Int32) z)), .unset, .unset, .unset, .unset, .unset] [(.int (f3_0 (0 : Int32) z)), (.int (f3_0 (0 : Int32) z))]))
    refine own_step (fun t k => XS.icmpNo X508.here hx rfl (hb hby at_89) rfl (teq rfl).2 k) ?_
    show own_Ends p e below s _ _ _ (T508.setTop (mkF m 92 #[.val (.int p0), .val (.int p1), .val (.int p2), .val (.int p3), .val (.int p4), .val (.int p5), .val (.ref b), .val (.int z), .val (.ref b501), .val (.int (f3_0 (0 : Int32) z)), .unset, .unset, .unset, .unset, .unset] []))
    refine own_step (fun t k => XS.iconst X508.here hx rfl (hb hby at_92) k) ?_
    show own_Ends p e below s _ _ _ (T508.setTop (mkF m 93 #[.val (.int p0), .val (.int p1), .val (.int p2), .val (.int p3), .val (.int p4), .val (.int p5), .val (.ref b), .val (.int z), .val (.ref b501), .val (.int (f3_0 (0 : Int32) z)), .unset, .unset, .unset, .unset, .unset] [(.int (1 : Int32))]))
    refine own_step (fun t k => XS.goto X508.here hx rfl (pc0 := 93) (pc' := 97) rfl (hb hby at_93) (by decide) (by decide) k) ?_
    show own_Ends p e below s _ _ _ (T508.setTop (mkF m 97 #[.val (.int p0), .val (.int p1), .val (.int p2), .val (.int p3), .val (.int p4), .val (.int p5), .val (.ref b), .val (.int z), .val (.ref b501), .val (.int (f3_0 (0 : Int32) z)), .unset, .unset, .unset, .unset, .unset] [(.int (1 : Int32))]))
    refine own_step (fun t k => XS.istore X508.here hx rfl (hb hby at_97) rfl (l' := #[.val (.int p0), .val (.int p1), .val (.int p2), .val (.int p3), .val (.int p4), .val (.int p5), .val (.ref b), .val (.int z), .val (.ref b501), .val (.int (f3_0 (0 : Int32) z)), .val (.int (1 : Int32)), .unset, .unset, .unset, .unset]) rfl k) ?_
    show own_Ends p e below s _ _ _ (T508.setTop (mkF m 99 #[.val (.int p0), .val (.int p1), .val (.int p2), .val (.int p3), .val (.int p4), .val (.int p5), .val (.ref b), .val (.int z), .val (.ref b501), .val (.int (f3_0 (0 : Int32) z)), .val (.int (1 : Int32)), .unset, .unset, .unset, .unset] []))
    exact law_99 p0 p1 p2 p3 p4 p5 b b501 z f X508 hx hZ hw hby hml hown hret hlk e508 N508 Z503 u504 E503_0 F503_bytes F503_end F503_position gn_b501 ne_b_b501
theorem pn_0 : plainName "com/example/weftline/weftline/runner/BodyMorePinLaw" = true := by first | (simp [plainName, overriddenIn]; done) | decide +kernel
theorem ef_0 (m : MethodId) (p0 : Int32) (p1 : Int32) (p2 : Int32) (p3 : Int32) (p4 : Int32) (p5 : Int32) : entryFrame m #[(.int p0), (.int p1), (.int p2), (.int p3), (.int p4), (.int p5)] maxLocals = mkF m 0 #[.val (.int p0), .val (.int p1), .val (.int p2), .val (.int p3), .val (.int p4), .val (.int p5), .unset, .unset, .unset, .unset, .unset, .unset, .unset, .unset, .unset] [] := by first | (simp [entryFrame, mkF, argsToLocals, Value.category, maxLocals]; done) | rfl
set_option maxRecDepth 65536 in
set_option maxHeartbeats 40000000 in
theorem rm0 (l : Launch) (Z : State) (a0 : Array Value) (hw : ∀ d ∈ tables_1, d.before a0 Z = true) (ws : List Jvm.Cond) (p0 : Int32) (p1 : Int32) (p2 : Int32) (p3 : Int32) (p4 : Int32) (p5 : Int32) (h0 : Heap) (n0 : Nat) (Z0 : n0 ≤ h0.size) :
    MetFree l x (head1 (Jvm.Cond.code x code maxLocals ret :: ws) room_1) (fun a U => a = #[(.int p0), (.int p1), (.int p2), (.int p3), (.int p4), (.int p5)] ∧ Z.Warmed39 U.vm ∧ U.heap = h0) (fun _ _ _ _ _ => True) (fun _ U o U' => ∃ v L, o = .returned v ∧ (fun v h L => v = some (.int 1) ∧ Fr n0 L) v U'.heap L ∧ FrameEnd U o U' L 16 128) := by
  refine MetFree.of_bodySF (plainFor_of_name pn_0) hisR ?_
  intro p e s m args below meth c s₁ Bd hml0 hP hK
  obtain ⟨rfl, hZ, hh⟩ := hP
  have hx := Bd.exec
  have hby := Bd.bytes
  have hret := Bd.returns
  have hlk := BodyLoose.notSynchronized Bd
  have hml : c.maxLocals = 15 := hml0
  have hown : s.vm.findClass "com/example/weftline/weftline/runner/BodyMorePinLaw" = some m.cls := findClass_of_methodNamed Bd.named
  have hnm := (name_of_methodNamed Bd.named Bd.method).1
  have X0 : Stand p l e room_1 s m #[(.int p0), (.int p1), (.int p2), (.int p3), (.int p4), (.int p5)] below meth c s₁ [] 0 0 := Stand.of_body Bd
  have e0 : s₁.heap = h0 := by rw [← hh, Bd.state]; rfl
  have N0 := Fr.nil n0
  show own_Ends p e below s 16 128 (fun v h L => v = some (.int 1) ∧ Fr n0 L) (s₁.setTop (entryFrame m #[(.int p0), (.int p1), (.int p2), (.int p3), (.int p4), (.int p5)] maxLocals))
  refine own_cast (ef_0 m p0 p1 p2 p3 p4 p5) ?_
  show own_Ends p e below s _ _ _ (s₁.setTop (mkF m 0 #[.val (.int p0), .val (.int p1), .val (.int p2), .val (.int p3), .val (.int p4), .val (.int p5), .unset, .unset, .unset, .unset, .unset, .unset, .unset, .unset, .unset] []))
  refine own_step (fun t k => XS.iconst X0.here hx rfl (hb hby at_0) k) ?_
  show own_Ends p e below s _ _ _ (s₁.setTop (mkF m 1 #[.val (.int p0), .val (.int p1), .val (.int p2), .val (.int p3), .val (.int p4), .val (.int p5), .unset, .unset, .unset, .unset, .unset, .unset, .unset, .unset, .unset] [(.int (4 : Int32))]))
  obtain ⟨T1, h1, X1, e1, E1, A1, st1⟩ := own_newI X0 hx hZ (hw _ (List.mem_of_getElem? (i := 0) rfl)) e0 (g := (mkF m 1 #[.val (.int p0), .val (.int p1), .val (.int p2), .val (.int p3), .val (.int p4), .val (.int p5), .unset, .unset, .unset, .unset, .unset, .unset, .unset, .unset, .unset] [(.int (4 : Int32))])) rfl (hb hby at_1) rfl (N := 4) (by decide) (by decide) (by decide) (by decide) rfl
  obtain ⟨b1, g1⟩ : ∃ z, z = h0.size := ⟨_, rfl⟩
  rw [← g1] at A1 st1
  have gn_b1 : n0 ≤ b1 := Nat.le_trans Z0 (Nat.le_of_eq g1.symm)
  have Z1 : n0 ≤ h1.size := Nat.le_trans Z0 E1.1
  refine own_step st1 ?_
  show own_Ends p e below s _ _ _ (T1.setTop (mkF m 3 #[.val (.int p0), .val (.int p1), .val (.int p2), .val (.int p3), .val (.int p4), .val (.int p5), .unset, .unset, .unset, .unset, .unset, .unset, .unset, .unset, .unset] [(.ref b1)]))
  refine own_step (fun t k => XS.dup X1.here hx rfl (hb hby at_3) rfl rfl k) ?_
  show own_Ends p e below s _ _ _ (T1.setTop (mkF m 4 #[.val (.int p0), .val (.int p1), .val (.int p2), .val (.int p3), .val (.int p4), .val (.int p5), .unset, .unset, .unset, .unset, .unset, .unset, .unset, .unset, .unset] [(.ref b1), (.ref b1)]))
  refine own_step (fun t k => XS.iconst X1.here hx rfl (hb hby at_4) k) ?_
  show own_Ends p e below s _ _ _ (T1.setTop (mkF m 5 #[.val (.int p0), .val (.int p1), .val (.int p2), .val (.int p3), .val (.int p4), .val (.int p5), .unset, .unset, .unset, .unset, .unset, .unset, .unset, .unset, .unset] [(.int (0 : Int32)), (.ref b1), (.ref b1)]))
  refine own_step (fun t k => XS.iloadN X1.here hx rfl (hb hby at_5) rfl k) ?_
  show own_Ends p e below s _ _ _ (T1.setTop (mkF m 6 #[.val (.int p0), .val (.int p1), .val (.int p2), .val (.int p3), .val (.int p4), .val (.int p5), .unset, .unset, .unset, .unset, .unset, .unset, .unset, .unset, .unset] [(.int p0), (.int (0 : Int32)), (.ref b1), (.ref b1)]))
  refine own_step (fun t k => XS.i2b X1.here hx rfl (hb hby at_6) rfl k) ?_
  show own_Ends p e below s _ _ _ (T1.setTop (mkF m 7 #[.val (.int p0), .val (.int p1), .val (.int p2), .val (.int p3), .val (.int p4), .val (.int p5), .unset, .unset, .unset, .unset, .unset, .unset, .unset, .unset, .unset] [(.int (p0.toInt8.toInt32)), (.int (0 : Int32)), (.ref b1), (.ref b1)]))
  obtain ⟨T2, h2, X2, e2, W2, A2, st2⟩ := own_stB X1 hx hZ e1 A1 0 (by decide) (by decide) (g := (mkF m 7 #[.val (.int p0), .val (.int p1), .val (.int p2), .val (.int p3), .val (.int p4), .val (.int p5), .unset, .unset, .unset, .unset, .unset, .unset, .unset, .unset, .unset] [(.int (p0.toInt8.toInt32)), (.int (0 : Int32)), (.ref b1), (.ref b1)])) rfl rfl (hb hby at_7)
  refine own_step st2 ?_
  have N2 := Fr.snoc X2 N0 gn_b1
  have Z2 : n0 ≤ h2.size := by rw [W2.size]; exact Z1
  show own_Ends p e below s _ _ _ (T2.setTop (mkF m 8 #[.val (.int p0), .val (.int p1), .val (.int p2), .val (.int p3), .val (.int p4), .val (.int p5), .unset, .unset, .unset, .unset, .unset, .unset, .unset, .unset, .unset] [(.ref b1)]))
  refine own_step (fun t k => XS.dup X2.here hx rfl (hb hby at_8) rfl rfl k) ?_
  show own_Ends p e below s _ _ _ (T2.setTop (mkF m 9 #[.val (.int p0), .val (.int p1), .val (.int p2), .val (.int p3), .val (.int p4), .val (.int p5), .unset, .unset, .unset, .unset, .unset, .unset, .unset, .unset, .unset] [(.ref b1), (.ref b1)]))
  refine own_step (fun t k => XS.iconst X2.here hx rfl (hb hby at_9) k) ?_
  show own_Ends p e below s _ _ _ (T2.setTop (mkF m 10 #[.val (.int p0), .val (.int p1), .val (.int p2), .val (.int p3), .val (.int p4), .val (.int p5), .unset, .unset, .unset, .unset, .unset, .unset, .unset, .unset, .unset] [(.int (1 : Int32)), (.ref b1), (.ref b1)]))
  refine own_step (fun t k => XS.iloadN X2.here hx rfl (hb hby at_10) rfl k) ?_
  show own_Ends p e below s _ _ _ (T2.setTop (mkF m 11 #[.val (.int p0), .val (.int p1), .val (.int p2), .val (.int p3), .val (.int p4), .val (.int p5), .unset, .unset, .unset, .unset, .unset, .unset, .unset, .unset, .unset] [(.int p1), (.int (1 : Int32)), (.ref b1), (.ref b1)]))
  refine own_step (fun t k => XS.i2b X2.here hx rfl (hb hby at_11) rfl k) ?_
  show own_Ends p e below s _ _ _ (T2.setTop (mkF m 12 #[.val (.int p0), .val (.int p1), .val (.int p2), .val (.int p3), .val (.int p4), .val (.int p5), .unset, .unset, .unset, .unset, .unset, .unset, .unset, .unset, .unset] [(.int (p1.toInt8.toInt32)), (.int (1 : Int32)), (.ref b1), (.ref b1)]))
  obtain ⟨T3, h3, X3, e3, W3, A3, st3⟩ := own_stB X2 hx hZ e2 A2 1 (by decide) (by decide) (g := (mkF m 12 #[.val (.int p0), .val (.int p1), .val (.int p2), .val (.int p3), .val (.int p4), .val (.int p5), .unset, .unset, .unset, .unset, .unset, .unset, .unset, .unset, .unset] [(.int (p1.toInt8.toInt32)), (.int (1 : Int32)), (.ref b1), (.ref b1)])) rfl rfl (hb hby at_12)
  refine own_step st3 ?_
  have N3 := Fr.snoc X3 N2 gn_b1
  have Z3 : n0 ≤ h3.size := by rw [W3.size]; exact Z2
  show own_Ends p e below s _ _ _ (T3.setTop (mkF m 13 #[.val (.int p0), .val (.int p1), .val (.int p2), .val (.int p3), .val (.int p4), .val (.int p5), .unset, .unset, .unset, .unset, .unset, .unset, .unset, .unset, .unset] [(.ref b1)]))
  refine own_step (fun t k => XS.dup X3.here hx rfl (hb hby at_13) rfl rfl k) ?_
  show own_Ends p e below s _ _ _ (T3.setTop (mkF m 14 #[.val (.int p0), .val (.int p1), .val (.int p2), .val (.int p3), .val (.int p4), .val (.int p5), .unset, .unset, .unset, .unset, .unset, .unset, .unset, .unset, .unset] [(.ref b1), (.ref b1)]))
  refine own_step (fun t k => XS.iconst X3.here hx rfl (hb hby at_14) k) ?_
  show own_Ends p e below s _ _ _ (T3.setTop (mkF m 15 #[.val (.int p0), .val (.int p1), .val (.int p2), .val (.int p3), .val (.int p4), .val (.int p5), .unset, .unset, .unset, .unset, .unset, .unset, .unset, .unset, .unset] [(.int (2 : Int32)), (.ref b1), (.ref b1)]))
  refine own_step (fun t k => XS.iloadN X3.here hx rfl (hb hby at_15) rfl k) ?_
  show own_Ends p e below s _ _ _ (T3.setTop (mkF m 16 #[.val (.int p0), .val (.int p1), .val (.int p2), .val (.int p3), .val (.int p4), .val (.int p5), .unset, .unset, .unset, .unset, .unset, .unset, .unset, .unset, .unset] [(.int p2), (.int (2 : Int32)), (.ref b1), (.ref b1)]))
  refine own_step (fun t k => XS.i2b X3.here hx rfl (hb hby at_16) rfl k) ?_
  show own_Ends p e below s _ _ _ (T3.setTop (mkF m 17 #[.val (.int p0), .val (.int p1), .val (.int p2), .val (.int p3), .val (.int p4), .val (.int p5), .unset, .unset, .unset, .unset, .unset, .unset, .unset, .unset, .unset] [(.int (p2.toInt8.toInt32)), (.int (2 : Int32)), (.ref b1), (.ref b1)]))
  obtain ⟨T4, h4, X4, e4, W4, A4, st4⟩ := own_stB X3 hx hZ e3 A3 2 (by decide) (by decide) (g := (mkF m 17 #[.val (.int p0), .val (.int p1), .val (.int p2), .val (.int p3), .val (.int p4), .val (.int p5), .unset, .unset, .unset, .unset, .unset, .unset, .unset, .unset, .unset] [(.int (p2.toInt8.toInt32)), (.int (2 : Int32)), (.ref b1), (.ref b1)])) rfl rfl (hb hby at_17)
  refine own_step st4 ?_
  have N4 := Fr.snoc X4 N3 gn_b1
  have Z4 : n0 ≤ h4.size := by rw [W4.size]; exact Z3
  show own_Ends p e below s _ _ _ (T4.setTop (mkF m 18 #[.val (.int p0), .val (.int p1), .val (.int p2), .val (.int p3), .val (.int p4), .val (.int p5), .unset, .unset, .unset, .unset, .unset, .unset, .unset, .unset, .unset] [(.ref b1)]))
  refine own_step (fun t k => XS.dup X4.here hx rfl (hb hby at_18) rfl rfl k) ?_
  show own_Ends p e below s _ _ _ (T4.setTop (mkF m 19 #[.val (.int p0), .val (.int p1), .val (.int p2), .val (.int p3), .val (.int p4), .val (.int p5), .unset, .unset, .unset, .unset, .unset, .unset, .unset, .unset, .unset] [(.ref b1), (.ref b1)]))
  refine own_step (fun t k => XS.iconst X4.here hx rfl (hb hby at_19) k) ?_
  show own_Ends p e below s _ _ _ (T4.setTop (mkF m 20 #[.val (.int p0), .val (.int p1), .val (.int p2), .val (.int p3), .val (.int p4), .val (.int p5), .unset, .unset, .unset, .unset, .unset, .unset, .unset, .unset, .unset] [(.int (3 : Int32)), (.ref b1), (.ref b1)]))
  refine own_step (fun t k => XS.iloadN X4.here hx rfl (hb hby at_20) rfl k) ?_
  show own_Ends p e below s _ _ _ (T4.setTop (mkF m 21 #[.val (.int p0), .val (.int p1), .val (.int p2), .val (.int p3), .val (.int p4), .val (.int p5), .unset, .unset, .unset, .unset, .unset, .unset, .unset, .unset, .unset] [(.int p3), (.int (3 : Int32)), (.ref b1), (.ref b1)]))
  refine own_step (fun t k => XS.i2b X4.here hx rfl (hb hby at_21) rfl k) ?_
  show own_Ends p e below s _ _ _ (T4.setTop (mkF m 22 #[.val (.int p0), .val (.int p1), .val (.int p2), .val (.int p3), .val (.int p4), .val (.int p5), .unset, .unset, .unset, .unset, .unset, .unset, .unset, .unset, .unset] [(.int (p3.toInt8.toInt32)), (.int (3 : Int32)), (.ref b1), (.ref b1)]))
  obtain ⟨T5, h5, X5, e5, W5, A5, st5⟩ := own_stB X4 hx hZ e4 A4 3 (by decide) (by decide) (g := (mkF m 22 #[.val (.int p0), .val (.int p1), .val (.int p2), .val (.int p3), .val (.int p4), .val (.int p5), .unset, .unset, .unset, .unset, .unset, .unset, .unset, .unset, .unset] [(.int (p3.toInt8.toInt32)), (.int (3 : Int32)), (.ref b1), (.ref b1)])) rfl rfl (hb hby at_22)
  refine own_step st5 ?_
  have N5 := Fr.snoc X5 N4 gn_b1
  have Z5 : n0 ≤ h5.size := by rw [W5.size]; exact Z4
  show own_Ends p e below s _ _ _ (T5.setTop (mkF m 23 #[.val (.int p0), .val (.int p1), .val (.int p2), .val (.int p3), .val (.int p4), .val (.int p5), .unset, .unset, .unset, .unset, .unset, .unset, .unset, .unset, .unset] [(.ref b1)]))
  refine own_step (fun t k => XS.astore X5.here hx rfl (hb hby at_23) rfl rfl (l' := #[.val (.int p0), .val (.int p1), .val (.int p2), .val (.int p3), .val (.int p4), .val (.int p5), .val (.ref b1), .unset, .unset, .unset, .unset, .unset, .unset, .unset, .unset]) rfl k) ?_
  show own_Ends p e below s _ _ _ (T5.setTop (mkF m 25 #[.val (.int p0), .val (.int p1), .val (.int p2), .val (.int p3), .val (.int p4), .val (.int p5), .val (.ref b1), .unset, .unset, .unset, .unset, .unset, .unset, .unset, .unset] []))
  refine own_step (fun t k => XS.iload X5.here hx rfl (hb hby at_25) rfl k) ?_
  show own_Ends p e below s _ _ _ (T5.setTop (mkF m 27 #[.val (.int p0), .val (.int p1), .val (.int p2), .val (.int p3), .val (.int p4), .val (.int p5), .val (.ref b1), .unset, .unset, .unset, .unset, .unset, .unset, .unset, .unset] [(.int p5)]))
  refine own_step (fun t k => XS.iconst X5.here hx rfl (hb hby at_27) k) ?_
  show own_Ends p e below s _ _ _ (T5.setTop (mkF m 28 #[.val (.int p0), .val (.int p1), .val (.int p2), .val (.int p3), .val (.int p4), .val (.int p5), .val (.ref b1), .unset, .unset, .unset, .unset, .unset, .unset, .unset, .unset] [(.int (1 : Int32)), (.int p5)]))
  refine own_step (fun t k => XS.iand X5.here hx rfl (hb hby at_28) rfl k) ?_
  show own_Ends p e below s _ _ _ (T5.setTop (mkF m 29 #[.val (.int p0), .val (.int p1), .val (.int p2), .val (.int p3), .val (.int p4), .val (.int p5), .val (.ref b1), .unset, .unset, .unset, .unset, .unset, .unset, .unset, .unset] [(.int (p5 &&& (1 : Int32)))]))
  by_cases hc29_6 : (p5 &&& (1 : Int32)) = (0 : Int32)
  · -- (p5 &&& (1 : Int32)) = (0 : Int32)
    refine own_step (fun t k => XS.ifYes X5.here hx rfl (pc0 := 29) (pc' := 37) rfl (hb hby at_29) rfl ((if0 _ _).trans (teq hc29_6).1) (by decide) (by decide) k) ?_
    show own_Ends p e below s _ _ _ (T5.setTop (mkF m 37 #[.val (.int p0), .val (.int p1), .val (.int p2), .val (.int p3), .val (.int p4), .val (.int p5), .val (.ref b1), .unset, .unset, .unset, .unset, .unset, .unset, .unset, .unset] []))
    refine own_step (fun t k => XS.iload X5.here hx rfl (hb hby at_37) rfl k) ?_
    show own_Ends p e below s _ _ _ (T5.setTop (mkF m 39 #[.val (.int p0), .val (.int p1), .val (.int p2), .val (.int p3), .val (.int p4), .val (.int p5), .val (.ref b1), .unset, .unset, .unset, .unset, .unset, .unset, .unset, .unset] [(.int p4)]))
    refine own_step (fun t k => XS.bipush X5.here hx rfl (hb hby at_39) k) ?_
    show own_Ends p e below s _ _ _ (T5.setTop (mkF m 41 #[.val (.int p0), .val (.int p1), .val (.int p2), .val (.int p3), .val (.int p4), .val (.int p5), .val (.ref b1), .unset, .unset, .unset, .unset, .unset, .unset, .unset, .unset] [(.int (7 : Int32)), (.int p4)]))
    refine own_step (fun t k => XS.iand X5.here hx rfl (hb hby at_41) rfl k) ?_
    show own_Ends p e below s _ _ _ (T5.setTop (mkF m 42 #[.val (.int p0), .val (.int p1), .val (.int p2), .val (.int p3), .val (.int p4), .val (.int p5), .val (.ref b1), .unset, .unset, .unset, .unset, .unset, .unset, .unset, .unset] [(.int (p4 &&& (7 : Int32)))]))
    refine own_step (fun t k => XS.iconst X5.here hx rfl (hb hby at_42) k) ?_
    show own_Ends p e below s _ _ _ (T5.setTop (mkF m 43 #[.val (.int p0), .val (.int p1), .val (.int p2), .val (.int p3), .val (.int p4), .val (.int p5), .val (.ref b1), .unset, .unset, .unset, .unset, .unset, .unset, .unset, .unset] [(.int (2 : Int32)), (.int (p4 &&& (7 : Int32)))]))
    refine own_step (fun t k => XS.isub X5.here hx rfl (hb hby at_43) rfl k) ?_
    show own_Ends p e below s _ _ _ (T5.setTop (mkF m 44 #[.val (.int p0), .val (.int p1), .val (.int p2), .val (.int p3), .val (.int p4), .val (.int p5), .val (.ref b1), .unset, .unset, .unset, .unset, .unset, .unset, .unset, .unset] [(.int ((p4 &&& (7 : Int32)) - (2 : Int32)))]))
    refine own_step (fun t k => XS.istore X5.here hx rfl (hb hby at_44) rfl (l' := #[.val (.int p0), .val (.int p1), .val (.int p2), .val (.int p3), .val (.int p4), .val (.int p5), .val (.ref b1), .val (.int ((p4 &&& (7 : Int32)) - (2 : Int32))), .unset, .unset, .unset, .unset, .unset, .unset, .unset]) rfl k) ?_
    show own_Ends p e below s _ _ _ (T5.setTop (mkF m 46 #[.val (.int p0), .val (.int p1), .val (.int p2), .val (.int p3), .val (.int p4), .val (.int p5), .val (.ref b1), .val (.int ((p4 &&& (7 : Int32)) - (2 : Int32))), .unset, .unset, .unset, .unset, .unset, .unset, .unset] []))
    exact law_46 p0 p1 p2 p3 p4 p5 b1 ((p4 &&& (7 : Int32)) - (2 : Int32)) (own_up (own_up (own_up (own_up (fun _ => 0) 0 (((p0.toInt8.toInt32)).toInt8.toInt32)) 1 (((p1.toInt8.toInt32)).toInt8.toInt32)) 2 (((p2.toInt8.toInt32)).toInt8.toInt32)) 3 (((p3.toInt8.toInt32)).toInt8.toInt32)) X5 hx hZ hw hby hml hown hret hlk e5 N5 Z5 A5 
  · -- not (p5 &&& (1 : Int32)) = (0 : Int32)
    refine own_step (fun t k => XS.ifNo X5.here hx rfl (hb hby at_29) rfl ((if0 _ _).trans (feq hc29_6).1) k) ?_
    show own_Ends p e below s _ _ _ (T5.setTop (mkF m 32 #[.val (.int p0), .val (.int p1), .val (.int p2), .val (.int p3), .val (.int p4), .val (.int p5), .val (.ref b1), .unset, .unset, .unset, .unset, .unset, .unset, .unset, .unset] []))
    refine own_step (fun t k => XS.iload X5.here hx rfl (hb hby at_32) rfl k) ?_
    show own_Ends p e below s _ _ _ (T5.setTop (mkF m 34 #[.val (.int p0), .val (.int p1), .val (.int p2), .val (.int p3), .val (.int p4), .val (.int p5), .val (.ref b1), .unset, .unset, .unset, .unset, .unset, .unset, .unset, .unset] [(.int p4)]))
    refine own_step (fun t k => XS.goto X5.here hx rfl (pc0 := 34) (pc' := 44) rfl (hb hby at_34) (by decide) (by decide) k) ?_
    show own_Ends p e below s _ _ _ (T5.setTop (mkF m 44 #[.val (.int p0), .val (.int p1), .val (.int p2), .val (.int p3), .val (.int p4), .val (.int p5), .val (.ref b1), .unset, .unset, .unset, .unset, .unset, .unset, .unset, .unset] [(.int p4)]))
    refine own_step (fun t k => XS.istore X5.here hx rfl (hb hby at_44) rfl (l' := #[.val (.int p0), .val (.int p1), .val (.int p2), .val (.int p3), .val (.int p4), .val (.int p5), .val (.ref b1), .val (.int p4), .unset, .unset, .unset, .unset, .unset, .unset, .unset]) rfl k) ?_
    show own_Ends p e below s _ _ _ (T5.setTop (mkF m 46 #[.val (.int p0), .val (.int p1), .val (.int p2), .val (.int p3), .val (.int p4), .val (.int p5), .val (.ref b1), .val (.int p4), .unset, .unset, .unset, .unset, .unset, .unset, .unset] []))
    exact law_46 p0 p1 p2 p3 p4 p5 b1 p4 (own_up (own_up (own_up (own_up (fun _ => 0) 0 (((p0.toInt8.toInt32)).toInt8.toInt32)) 1 (((p1.toInt8.toInt32)).toInt8.toInt32)) 2 (((p2.toInt8.toInt32)).toInt8.toInt32)) 3 (((p3.toInt8.toInt32)).toInt8.toInt32)) X5 hx hZ hw hby hml hown hret hlk e5 N5 Z5 A5 
set_option maxRecDepth 65536 in
set_option maxHeartbeats 40000000 in
theorem comes_1 {Post : Tables → Env → Array Value → State → Outcome → State → Prop} (hpost : ∀ tb e args s v u, (limb_1_1.after args s (.returned v) u = true ∧ limb_1_2.after args s (.returned v) u = true ∧ True) → FrameEnd s (.returned v) u (Jvm.fieldLocs frame_1_writes args s ++ Jvm.arrayLocs frame_1_arrays args s ++ Jvm.staticLocs frame_1_statics s) 16 128 → Post tb e args s (.returned v) u) :
    ArmFor flags0 classFile x code maxLocals ret World_1 tables_1 room_1 Calls_1 rest_1 Pre_1 Post := by
  intro l hfl _ _ p e ha hc hk s m args below hf hA hF happ hP
  obtain ⟨hcalls, hrest, hpre⟩ := hP
  obtain ⟨-, -, -, hnamed, -, -, -, hat⟩ := (Spec.applies_iff hf).mp happ
  obtain ⟨hg, hn⟩ := and_e (Cond.before_iff.mp (show (Jvm.Cond.and given_1 narrow_1).before args s = true from hpre))
  obtain ⟨g0, hr0⟩ := and_e hg
  obtain ⟨g1, hr1⟩ := and_e hr0
  obtain ⟨g2, hr2⟩ := and_e hr1
  obtain ⟨g3, hr3⟩ := and_e hr2
  obtain ⟨g4, hr4⟩ := and_e hr3
  obtain ⟨g5, hr5⟩ := and_e hr4
  obtain ⟨w0, w1, w2, w3, w4, w5, rfl⟩ : ∃ w0 w1 w2 w3 w4 w5 : Value, args = #[w0, w1, w2, w3, w4, w5] := by
    have hs : args.size = 6 := by simpa [Cond.value, given_1] using g0
    obtain ⟨L⟩ := args
    match L, hs with
    | [w0, w1, w2, w3, w4, w5], _ => exact ⟨w0, w1, w2, w3, w4, w5, rfl⟩
  have hw := fun d (hd : d ∈ tables_1) => atoms_spec (ws := Jvm.Cond.code x code maxLocals ret :: tables_1) hat d (List.mem_cons_of_mem _ hd)
  obtain ⟨i0, ei0⟩ := is_v g1
  obtain rfl : w0 = (.int i0) := Option.some.inj ei0
  obtain ⟨i1, ei1⟩ := is_v g2
  obtain rfl : w1 = (.int i1) := Option.some.inj ei1
  obtain ⟨i2, ei2⟩ := is_v g3
  obtain rfl : w2 = (.int i2) := Option.some.inj ei2
  obtain ⟨i3, ei3⟩ := is_v g4
  obtain rfl : w3 = (.int i3) := Option.some.inj ei3
  obtain ⟨i4, ei4⟩ := is_v g5
  obtain rfl : w4 = (.int i4) := Option.some.inj ei4
  obtain ⟨i5, ei5⟩ := is_v hr5
  obtain rfl : w5 = (.int i5) := Option.some.inj ei5
  obtain ⟨n, o, h1, h2, h3, _, L, rfl, ⟨rfl, N⟩, hq⟩ := rm0 l s _ hw tables_1 i0 i1 i2 i3 i4 i5 s.heap s.heap.size (Nat.le_refl _)  p e ha hc hk s m _ below hf ((Spec.applies_iff_loose hf).mp happ).1 ⟨rfl, State.Warmed39.refl s, rfl⟩ trivial
  refine ⟨n, _, h1, h2, h3, hpost _ _ _ _ _ _ ⟨Cond.after_iff.mpr rfl, Cond.after_iff.mpr (eq_i res_at (Term.int_eval (1)) rfl), trivial⟩ ⟨hq.1, hq.2.1, (hq.2.2.sift fun y hy => Or.inr (N y hy)).mono (by decide) (by decide)⟩⟩
theorem main_1_1 : Claimed_1_1 := comes_1 fun _ _ _ _ _ _ h hF => ⟨h.1, hF⟩
theorem main_1_2 : Claimed_1_2 := comes_1 fun _ _ _ _ _ _ h hF => ⟨h.2.1, hF⟩
end Jvm.Pilot.@@N@@
namespace Jvm.Pilot.@@N@@
open Jvm Jvm.ClassFile Sem Op Lib Jvm.Free Jvm.Stand Jvm.Pilot.@@N@@.Jvm.D
/-! MADE BY PROGRAM (witnessworld.py) out of the Statement's table words and the real class files: 10 classes; the members and pool entries that the words name. The judged class is class 1, her method 3. -/
namespace start1
open Jvm.ClassFile
def u (s : String) : CpInfo := .utf8 (stringToUtf16 s)
/-- a pool by its gaps: so many unusable entries, then the entry; so many at the end -/
def gap : Nat → List CpInfo → List CpInfo
  | 0, r => r
  | n + 1, r => .unusable :: gap n r
def poolList (es : List (Nat × CpInfo)) (last : Nat) : List CpInfo := es.foldr (fun e r => gap e.1 (e.2 :: r)) (gap last [])
def pool (es : List (Nat × CpInfo)) (last : Nat) : Array CpInfo := ⟨poolList es last⟩
def fileOf (pool : Array CpInfo) (this : Nat) (attrs : Array Attribute := #[]) (ms : Array MethodInfo := #[]) (fl : Nat := 33) (sup : Nat := 0) (ifs : Array Nat := #[]) (fds : Array FieldInfo := #[]) : ClassFile where
  minorVersion := 0
  majorVersion := 65
  constantPool := pool
  accessFlags := fl
  thisClass := this
  superClass := sup
  interfaces := ifs
  fields := fds
  methods := ms
  attributes := attrs
def plain (name : String) (sup : Option ClassId) : Class where
  name := name
  kind := .ordinary
  loader := none
  accessFlags := 33
  super := sup
  interfaces := #[]
  cf := none
  fields := #[]
  methods := #[]
  instanceTypes := #[]
  staticTypes := #[]
  resolved := #[]
  callSites := []
  init := .initialized
  statics := none
  mirror := none

def pool0 : Array CpInfo := pool [(5, u "<init>"), (0, u "()V"), (1, .class_ 10), (1, u "java/lang/Object")] 113

def k0c0 : Code := { maxStack := 0, maxLocals := 1, code := object_method_1_code, exceptionTable := #[], attributes := #[] }
def k0m0 : Method := { name := "<init>", desc := "()V", sig := { parameters := [], returnType := none }, accessFlags := 1, code := some k0c0 }
/-- java/lang/Object -/
def k0 : Class := { plain "java/lang/Object" none with
  accessFlags := 33
  interfaces := #[]
  cf := some (fileOf pool0 8 #[] #[{ accessFlags := 1, nameIndex := 5, descriptorIndex := 6, attributes := #[] }] 33 0 #[] #[])
  fields := #[]
  methods := #[k0m0]
  instanceTypes := #[]
  staticTypes := #[]
  resolved := Array.replicate 124 none
  statics := none }

def pool1 : Array CpInfo := pool [(2, .class_ 4), (1, u "java/lang/Object"), (0, u "<init>"), (0, u "()V"), (0, .methodref 8 9), (0, .class_ 10), (0, .nameAndType 11 12), (0, u "com/example/weftline/weftline/runner/BodyMorePinLaw"), (0, u "clear"), (0, u "(B)Z"), (0, .class_ 14), (0, u "com/example/weftline/weftline/runner/CompactWire$Body"), (0, .methodref 13 16), (0, .nameAndType 5 17), (0, u "([BI)V"), (0, .methodref 13 19), (0, .nameAndType 20 21), (0, u "more"), (0, u "()Z"), (0, .methodref 23 24), (0, .class_ 25), (0, .nameAndType 26 27), (0, u "java/lang/Math"), (0, u "min"), (0, u "(II)I"), (0, .methodref 8 29), (0, .nameAndType 30 31), (0, u "after"), (0, u "([BII)I"), (0, .methodref 13 33), (0, .nameAndType 34 35), (0, u "varint"), (0, u "()J"), (3, u "law"), (0, u "(IIIIII)Z")] 11

def k1m0 : Method := { name := "<init>", desc := "()V", sig := { parameters := [], returnType := none }, accessFlags := 1, code := none }
def k1c1 : Code := { maxStack := 2, maxLocals := 1, code := method_2_code, exceptionTable := #[], attributes := #[] }
def k1m1 : Method := { name := "clear", desc := "(B)Z", sig := { parameters := [.byte], returnType := some .boolean }, accessFlags := 10, code := some k1c1 }
def k1c2 : Code := { maxStack := 2, maxLocals := 3, code := method_3_code, exceptionTable := #[], attributes := #[] }
def k1m2 : Method := { name := "after", desc := "([BII)I", sig := { parameters := [(.array .byte), .int, .int], returnType := some .int }, accessFlags := 10, code := some k1c2 }
def k1c3 : Code := { maxStack := 4, maxLocals := 15, code := code, exceptionTable := #[], attributes := #[] }
def k1m3 : Method := { name := "law", desc := "(IIIIII)Z", sig := { parameters := [.int, .int, .int, .int, .int, .int], returnType := some .boolean }, accessFlags := 9, code := some k1c3 }
/-- com/example/weftline/weftline/runner/BodyMorePinLaw -/
def k1 : Class := { plain "com/example/weftline/weftline/runner/BodyMorePinLaw" (some 0) with
  accessFlags := 49
  interfaces := #[]
  cf := some (fileOf pool1 8 #[] #[{ accessFlags := 1, nameIndex := 5, descriptorIndex := 6, attributes := #[] }, { accessFlags := 10, nameIndex := 11, descriptorIndex := 12, attributes := #[] }, { accessFlags := 10, nameIndex := 30, descriptorIndex := 31, attributes := #[] }, { accessFlags := 9, nameIndex := 39, descriptorIndex := 40, attributes := #[] }] 49 2 #[] #[])
  fields := #[]
  methods := #[k1m0, k1m1, k1m2, k1m3]
  instanceTypes := #[]
  staticTypes := #[]
  resolved := Array.replicate 52 none
  statics := none }

def pool2 : Array CpInfo := pool [(1, .class_ 2), (0, u "com/example/weftline/weftline/runner/CompactWire"), (0, .methodref 4 5), (0, .class_ 6), (0, .nameAndType 7 8), (0, u "java/lang/Object"), (0, u "<init>"), (0, u "()V"), (0, .fieldref 10 11), (0, .class_ 12), (0, .nameAndType 13 14), (0, u "com/example/weftline/weftline/runner/CompactWire$Body"), (0, u "bytes"), (0, u "[B"), (0, .fieldref 10 16), (0, .nameAndType 17 18), (0, u "end"), (0, u "I"), (0, .fieldref 10 20), (0, .nameAndType 21 18), (0, u "position"), (11, u "varint"), (0, u "()J"), (64, u "([BI)V"), (2, u "more"), (0, u "()Z")] 29

def k2c0 : Code := { maxStack := 2, maxLocals := 3, code := prog_30_method_1_code, exceptionTable := #[], attributes := #[] }
def k2m0 : Method := { name := "<init>", desc := "([BI)V", sig := { parameters := [(.array .byte), .int], returnType := none }, accessFlags := 0, code := some k2c0 }
def k2c1 : Code := { maxStack := 2, maxLocals := 1, code := prog_30_method_2_code, exceptionTable := #[], attributes := #[] }
def k2m1 : Method := { name := "more", desc := "()Z", sig := { parameters := [], returnType := some .boolean }, accessFlags := 0, code := some k2c1 }
def k2c2 : Code := { maxStack := 5, maxLocals := 5, code := prog_30_method_3_code, exceptionTable := #[], attributes := #[] }
def k2m2 : Method := { name := "varint", desc := "()J", sig := { parameters := [], returnType := some .long }, accessFlags := 0, code := some k2c2 }
/-- com/example/weftline/weftline/runner/CompactWire$Body -/
def k2 : Class := { plain "com/example/weftline/weftline/runner/CompactWire$Body" (some 0) with
  accessFlags := 48
  interfaces := #[]
  cf := some (fileOf pool2 10 #[.nestHost 1] #[{ accessFlags := 0, nameIndex := 7, descriptorIndex := 99, attributes := #[] }, { accessFlags := 0, nameIndex := 102, descriptorIndex := 103, attributes := #[] }, { accessFlags := 0, nameIndex := 33, descriptorIndex := 34, attributes := #[] }] 48 4 #[] #[{ accessFlags := 18, nameIndex := 13, descriptorIndex := 14, attributes := #[] }, { accessFlags := 18, nameIndex := 17, descriptorIndex := 18, attributes := #[] }, { accessFlags := 2, nameIndex := 21, descriptorIndex := 18, attributes := #[] }])
  fields := #[{ name := "bytes", type := (.array .byte), accessFlags := 18, slot := 0, constantValue := 0 }, { name := "end", type := .int, accessFlags := 18, slot := 1, constantValue := 0 }, { name := "position", type := .int, accessFlags := 2, slot := 2, constantValue := 0 }]
  methods := #[k2m0, k2m1, k2m2]
  instanceTypes := #[(.array .byte), .int, .int]
  staticTypes := #[]
  resolved := Array.replicate 133 none
  statics := none }

def pool3 : Array CpInfo := pool [(1, .class_ 2), (0, u "java/lang/Math"), (1, .class_ 6), (1, u "java/lang/Object"), (0, u "<init>"), (0, u "()V"), (89, .class_ 100), (1, u "java/lang/Math$RandomNumberGeneratorHolder"), (71, u "negativeZeroFloatBits"), (0, u "J"), (2, u "negativeZeroDoubleBits"), (24, u "min"), (43, u "$assertionsDisabled"), (0, u "Z"), (88, u "(II)I"), (2, u "twoToTheDoubleScaleDown"), (0, u "D"), (4, u "twoToTheDoubleScaleUp"), (9, u "E"), (3, u "PI"), (2, u "TAU"), (2, u "DEGREES_TO_RADIANS"), (0, u "RADIANS_TO_DEGREES")] 94

def k3m0 : Method := { name := "<init>", desc := "()V", sig := { parameters := [], returnType := none }, accessFlags := 2, code := none }
def k3c1 : Code := { maxStack := 2, maxLocals := 2, code := jdk_29_method_69_code, exceptionTable := #[], attributes := #[] }
def k3m1 : Method := { name := "min", desc := "(II)I", sig := { parameters := [.int, .int], returnType := some .int }, accessFlags := 9, code := some k3c1 }
/-- java/lang/Math -/
def k3 : Class := { plain "java/lang/Math" (some 0) with
  accessFlags := 49
  interfaces := #[]
  cf := some (fileOf pool3 1 #[.nestMembers #[98]] #[{ accessFlags := 2, nameIndex := 7, descriptorIndex := 8, attributes := #[] }, { accessFlags := 9, nameIndex := 201, descriptorIndex := 335, attributes := #[] }] 49 4 #[] #[{ accessFlags := 25, nameIndex := 354, descriptorIndex := 339, attributes := #[] }, { accessFlags := 25, nameIndex := 358, descriptorIndex := 339, attributes := #[] }, { accessFlags := 25, nameIndex := 361, descriptorIndex := 339, attributes := #[] }, { accessFlags := 26, nameIndex := 364, descriptorIndex := 339, attributes := #[] }, { accessFlags := 26, nameIndex := 365, descriptorIndex := 339, attributes := #[] }, { accessFlags := 26, nameIndex := 172, descriptorIndex := 173, attributes := #[] }, { accessFlags := 26, nameIndex := 176, descriptorIndex := 173, attributes := #[] }, { accessFlags := 8, nameIndex := 344, descriptorIndex := 339, attributes := #[] }, { accessFlags := 8, nameIndex := 338, descriptorIndex := 339, attributes := #[] }, { accessFlags := 4120, nameIndex := 245, descriptorIndex := 246, attributes := #[] }])
  fields := #[{ name := "E", type := .double, accessFlags := 25, slot := 0, constantValue := 0 }, { name := "PI", type := .double, accessFlags := 25, slot := 1, constantValue := 0 }, { name := "TAU", type := .double, accessFlags := 25, slot := 2, constantValue := 0 }, { name := "DEGREES_TO_RADIANS", type := .double, accessFlags := 26, slot := 3, constantValue := 0 }, { name := "RADIANS_TO_DEGREES", type := .double, accessFlags := 26, slot := 4, constantValue := 0 }, { name := "negativeZeroFloatBits", type := .long, accessFlags := 26, slot := 5, constantValue := 0 }, { name := "negativeZeroDoubleBits", type := .long, accessFlags := 26, slot := 6, constantValue := 0 }, { name := "twoToTheDoubleScaleUp", type := .double, accessFlags := 8, slot := 7, constantValue := 0 }, { name := "twoToTheDoubleScaleDown", type := .double, accessFlags := 8, slot := 8, constantValue := 0 }, { name := "$assertionsDisabled", type := .boolean, accessFlags := 4120, slot := 9, constantValue := 0 }]
  methods := #[k3m0, k3m1]
  instanceTypes := #[]
  staticTypes := #[.double, .double, .double, .double, .double, .long, .long, .double, .double, .boolean]
  resolved := Array.replicate 460 none
  statics := none }

def pool4 : Array CpInfo := pool [(1, u "java/lang/Cloneable"), (0, .class_ 1), (0, u "java/lang/Object"), (0, .class_ 3)] 3

/-- java/lang/Cloneable -/
def k4 : Class := { plain "java/lang/Cloneable" (some 0) with
  accessFlags := 1537
  interfaces := #[]
  cf := some (fileOf pool4 2 #[] #[] 1537 4 #[] #[])
  fields := #[]
  methods := #[]
  instanceTypes := #[]
  staticTypes := #[]
  resolved := Array.replicate 8 none
  statics := none }

def pool5 : Array CpInfo := pool [(1, u "java/io/Serializable"), (0, .class_ 1), (0, u "java/lang/Object"), (0, .class_ 3)] 3

/-- java/io/Serializable -/
def k5 : Class := { plain "java/io/Serializable" (some 0) with
  accessFlags := 1537
  interfaces := #[]
  cf := some (fileOf pool5 2 #[] #[] 1537 4 #[] #[])
  fields := #[]
  methods := #[]
  instanceTypes := #[]
  staticTypes := #[]
  resolved := Array.replicate 8 none
  statics := none }

/-- the primitive byte -/
def k6 : Class := { plain "byte" none with kind := .primitive 'B', accessFlags := 0x411 }
/-- [B -/
def k7 : Class := { plain "[B" (some 0) with kind := .array 6 .byte, interfaces := #[4, 5], accessFlags := 1041 }

/-- the primitive int -/
def k8 : Class := { plain "int" none with kind := .primitive 'I', accessFlags := 0x411 }
/-- [I -/
def k9 : Class := { plain "[I" (some 0) with kind := .array 8 .int, interfaces := #[4, 5], accessFlags := 1041 }

def heap : Heap := #[]
def classes : Array Class := #[k0, k1, k2, k3, k4, k5, k6, k7, k8, k9]
def interned : List (Array UInt16 × Addr) := []
def slotsUsed : Nat := 0
def theMethod : MethodId := ⟨1, 3⟩
def args0 : Array Value := #[.int 5, .int 6, .int 7, .int 8, .int 9, .int 3]
def aboutOver (below : List Frame) : State where
  vm := { classes := classes, interned := interned.toArray }
  heap := heap
  slotsUsed := slotsUsed
  threads := #[{ frames := .invoking theMethod args0 :: below }]
def below0 : List Frame := [.native { method := ⟨0, 0⟩, args := #[] }]
def about1 : State := aboutOver below0
def p0 : Program := .bare "" "" ""
def e0 : Env := launch0.env 0 0 0
theorem w_frames : about1.frames = Frame.invoking theMethod args0 :: below0 := rfl
set_option maxRecDepth 65536 in
theorem w_args : argsFit about1.vm theMethod args0 = true := by decide +kernel
set_option maxRecDepth 65536 in
theorem w_heap : heapFits about1 = true := by decide +kernel
set_option maxRecDepth 65536 in
theorem w_runnable : about1.curStatus? = some .runnable := by decide +kernel
set_option maxRecDepth 65536 in
theorem w_alone : about1.alone = true := by decide +kernel
set_option maxRecDepth 65536 in
theorem w_named : about1.methodNamed? x = some theMethod := by decide +kernel
set_option maxRecDepth 65536 in
theorem w_hears : about1.hears theMethod below0 = true := by decide +kernel
set_option maxRecDepth 65536 in
theorem w_ripe : about1.ripe theMethod args0 below0 = true := by decide +kernel
theorem w_running : about1.status = .running := rfl
set_option maxRecDepth 65536 in
theorem w_room : about1.hasRoom e0.platform room_1 = true :=
  launch0.hasRoom_least _ room_1 (by decide +kernel) (by decide +kernel) (by decide +kernel) (by decide +kernel) (by decide +kernel) (by decide +kernel)
theorem allAtoms_all (ts : List Jvm.Cond) (a : Array Jvm.Value) (st : Jvm.State) : (allAtoms ts).before a st = ts.all (fun c => c.before a st) := by
  induction ts with
  | nil => rfl
  | cons c t ih =>
    show (Jvm.Cond.and c (allAtoms t)).before a st = _
    rw [Jvm.Cond.before_and, ih, List.all_cons]
def words1 : List Jvm.Cond := Jvm.Cond.code x code maxLocals ret :: tables_1
/-- a 'code' word, met by the world's own term for the bytes: nothing is compared byte by byte -/
theorem code_word {y : MethodName} {bytes : ByteArray} {mx : Nat} {rt : Option FieldType} {a : Array Value} {s : State} {m : MethodId} {meth : Method} {c : Code} (h1 : s.methodNamed? y = some m) (h2 : s.vm.method? m = some meth) (h3 : meth.code = some c) (h4 : c.code = bytes)
    (h5 : (c.maxLocals == mx && c.exceptionTable.isEmpty && decide (c.maxStack ≤ mostOperands) && decide (meth.sig.returnType = rt) && !meth.locks && decide (parseMethodDescriptor y.desc = some meth.sig)) = true) : (Jvm.Cond.code y bytes mx rt).before a s = true := by
  simp only [Bool.and_eq_true, beq_iff_eq, Bool.not_eq_true', decide_eq_true_eq] at h5
  obtain ⟨⟨⟨⟨⟨g1, g2⟩, g3⟩, g4⟩, g5⟩, g6⟩ := h5
  simp [Cond.before, Cond.holds, Cond.value, h1, h2, h3, h4, g1, g2, g3, g4, g5, g6]
def isCode : Jvm.Cond → Bool
  | .code _ _ _ _ => true
  | _ => false
theorem all_split {L : List Jvm.Cond} {P : Jvm.Cond → Bool} (h1 : L.all (fun c => isCode c || P c) = true) (h2 : ∀ c ∈ L.filter isCode, P c = true) : L.all P = true := by
  refine List.all_eq_true.mpr fun c hc => ?_
  have h := List.all_eq_true.mp h1 c hc
  rcases Bool.eq_false_or_eq_true (isCode c) with hi | hi
  · exact h2 c (List.mem_filter.mpr ⟨hc, hi⟩)
  · simpa [hi] using h
set_option maxRecDepth 65536 in
theorem w_c0 : (Jvm.Cond.code x code maxLocals ret).before args0 about1 = true := code_word (m := ⟨1, 3⟩) (meth := k1m3) (c := k1c3) (by decide +kernel) rfl rfl rfl (by decide +kernel)
set_option maxRecDepth 65536 in
theorem w_c1 : (Jvm.Cond.code ({ cls := "com/example/weftline/weftline/runner/CompactWire$Body", name := "<init>", desc := "([BI)V" } : Jvm.MethodName) prog_30_method_1_code (3 : Nat) (Option.none : Option Jvm.ClassFile.FieldType)).before args0 about1 = true := code_word (m := ⟨2, 0⟩) (meth := k2m0) (c := k2c0) (by decide +kernel) rfl rfl rfl (by decide +kernel)
set_option maxRecDepth 65536 in
theorem w_c2 : (Jvm.Cond.code ({ cls := "java/lang/Object", name := "<init>", desc := "()V" } : Jvm.MethodName) object_method_1_code (1 : Nat) (Option.none : Option Jvm.ClassFile.FieldType)).before args0 about1 = true := code_word (m := ⟨0, 0⟩) (meth := k0m0) (c := k0c0) (by decide +kernel) rfl rfl rfl (by decide +kernel)
set_option maxRecDepth 65536 in
theorem w_c3 : (Jvm.Cond.code ({ cls := "com/example/weftline/weftline/runner/CompactWire$Body", name := "more", desc := "()Z" } : Jvm.MethodName) prog_30_method_2_code (1 : Nat) (Option.some Jvm.ClassFile.FieldType.boolean)).before args0 about1 = true := code_word (m := ⟨2, 1⟩) (meth := k2m1) (c := k2c1) (by decide +kernel) rfl rfl rfl (by decide +kernel)
set_option maxRecDepth 65536 in
theorem w_c4 : (Jvm.Cond.code ({ cls := "java/lang/Math", name := "min", desc := "(II)I" } : Jvm.MethodName) jdk_29_method_69_code (2 : Nat) (Option.some Jvm.ClassFile.FieldType.int)).before args0 about1 = true := code_word (m := ⟨3, 1⟩) (meth := k3m1) (c := k3c1) (by decide +kernel) rfl rfl rfl (by decide +kernel)
set_option maxRecDepth 65536 in
theorem w_c5 : (Jvm.Cond.code ({ cls := "com/example/weftline/weftline/runner/BodyMorePinLaw", name := "after", desc := "([BII)I" } : Jvm.MethodName) method_3_code (3 : Nat) (Option.some Jvm.ClassFile.FieldType.int)).before args0 about1 = true := code_word (m := ⟨1, 2⟩) (meth := k1m2) (c := k1c2) (by decide +kernel) rfl rfl rfl (by decide +kernel)
set_option maxRecDepth 65536 in
theorem w_c6 : (Jvm.Cond.code ({ cls := "com/example/weftline/weftline/runner/BodyMorePinLaw", name := "clear", desc := "(B)Z" } : Jvm.MethodName) method_2_code (1 : Nat) (Option.some Jvm.ClassFile.FieldType.boolean)).before args0 about1 = true := code_word (m := ⟨1, 1⟩) (meth := k1m1) (c := k1c1) (by decide +kernel) rfl rfl rfl (by decide +kernel)
set_option maxRecDepth 65536 in
theorem w_c7 : (Jvm.Cond.code ({ cls := "com/example/weftline/weftline/runner/CompactWire$Body", name := "varint", desc := "()J" } : Jvm.MethodName) prog_30_method_3_code (5 : Nat) (Option.some Jvm.ClassFile.FieldType.long)).before args0 about1 = true := code_word (m := ⟨2, 2⟩) (meth := k2m2) (c := k2c2) (by decide +kernel) rfl rfl rfl (by decide +kernel)
def codes1 : List Jvm.Cond := [Jvm.Cond.code x code maxLocals ret, Jvm.Cond.code ({ cls := "com/example/weftline/weftline/runner/CompactWire$Body", name := "<init>", desc := "([BI)V" } : Jvm.MethodName) prog_30_method_1_code (3 : Nat) (Option.none : Option Jvm.ClassFile.FieldType), Jvm.Cond.code ({ cls := "java/lang/Object", name := "<init>", desc := "()V" } : Jvm.MethodName) object_method_1_code (1 : Nat) (Option.none : Option Jvm.ClassFile.FieldType), Jvm.Cond.code ({ cls := "com/example/weftline/weftline/runner/CompactWire$Body", name := "more", desc := "()Z" } : Jvm.MethodName) prog_30_method_2_code (1 : Nat) (Option.some Jvm.ClassFile.FieldType.boolean), Jvm.Cond.code ({ cls := "java/lang/Math", name := "min", desc := "(II)I" } : Jvm.MethodName) jdk_29_method_69_code (2 : Nat) (Option.some Jvm.ClassFile.FieldType.int), Jvm.Cond.code ({ cls := "com/example/weftline/weftline/runner/BodyMorePinLaw", name := "after", desc := "([BII)I" } : Jvm.MethodName) method_3_code (3 : Nat) (Option.some Jvm.ClassFile.FieldType.int), Jvm.Cond.code ({ cls := "com/example/weftline/weftline/runner/BodyMorePinLaw", name := "clear", desc := "(B)Z" } : Jvm.MethodName) method_2_code (1 : Nat) (Option.some Jvm.ClassFile.FieldType.boolean), Jvm.Cond.code ({ cls := "com/example/weftline/weftline/runner/CompactWire$Body", name := "varint", desc := "()J" } : Jvm.MethodName) prog_30_method_3_code (5 : Nat) (Option.some Jvm.ClassFile.FieldType.long)]
set_option maxRecDepth 65536 in
theorem codes_eq : words1.filter isCode = codes1 := rfl
theorem w_codes : ∀ c ∈ words1.filter isCode, c.before args0 about1 = true := by
  rw [codes_eq]
  intro c hc
  simp only [codes1, List.mem_cons, List.not_mem_nil, or_false] at hc
  rcases hc with rfl | rfl | rfl | rfl | rfl | rfl | rfl | rfl
  · exact w_c0
  · exact w_c1
  · exact w_c2
  · exact w_c3
  · exact w_c4
  · exact w_c5
  · exact w_c6
  · exact w_c7
set_option maxRecDepth 65536 in
theorem w_t1 : (words1.take 24).all (fun c => isCode c || c.before args0 about1) = true := by decide +kernel
set_option maxRecDepth 65536 in
theorem w_t2 : (words1.drop 24).all (fun c => isCode c || c.before args0 about1) = true := by decide +kernel
theorem w_tables : (allAtoms (Jvm.Cond.code x code maxLocals ret :: tables_1)).before args0 about1 = true := by
  rw [allAtoms_all]
  show words1.all (fun c => c.before args0 about1) = true
  refine all_split ?_ w_codes
  rw [← List.take_append_drop 24 words1, List.all_append, w_t1, w_t2]
  rfl
set_option maxRecDepth 65536 in
theorem w_case : (Jvm.Cond.and given_1 narrow_1).before args0 about1 = true := by decide +kernel
theorem w_applies : (headSpec (Jvm.Cond.code x code maxLocals ret :: tables_1) room_1).applies x e0.platform about1 = true :=
  (Spec.applies_iff w_frames).mpr ⟨w_running, w_runnable, w_alone, w_named, w_hears, w_ripe, w_room, w_tables⟩
theorem atStart : AtStart classFile x code maxLocals ret World_1 tables_1 room_1 Calls_1 rest_1 Pre_1 launch0 p0 e0 about1 theMethod args0 below0 :=
  ⟨lists_1, trivial, launch0.admits_env _ _ _, launch0.least_env, fairChoices_fair.cas, fairChoices_fair.clock, w_frames, w_args, w_heap, w_applies, trivial, trivial, w_case⟩
end start1
theorem witness_1 : WitnessClaimed_1 := ⟨start1.p0, start1.e0, start1.about1, start1.theMethod, start1.args0, start1.below0, start1.atStart⟩
end Jvm.Pilot.@@N@@
