import JvmDerived
import JvmDerived.Pilot.@@N@@Statement
import JvmDerived.Pilot.@@N@@Code
set_option linter.unusedVariables false
set_option linter.unusedSimpArgs false
namespace Jvm.Pilot.@@N@@
open Jvm Jvm.ClassFile Sem Op Lib Jvm.Free Jvm.Stand Jvm.LawKit Jvm.RoadKit Bundle Jvm.Pilot.@@N@@.Jvm.D
section OwnKit
variable {p : Program} {l : Launch} {e : Env} {R : Room} {s : State} {m : MethodId} {args : Array Value} {below : List Frame} {meth : Method} {c : Code} {T : State} {locs : List Loc} {cells slots : Nat} {Z : State} {h h' : Heap} {a b : Addr} {kc ks : Nat} {Q : Option Value → Heap → List Loc → Prop}
/-- from U the run comes to the method's end, and Q says what is left there -/
def own_Ends (p : Program) (e : Env) (below : List Frame) (s : State) (kc ks : Nat) (Q : Option Value → Heap → List Loc → Prop) (U : State) : Prop :=
  ∃ s₂ o, Steps p.tables e below U s₂ ∧ s₂.status = .running ∧ Ended s₂ below o ∧ ∃ v L, o = .returned v ∧ Q v s₂.heap L ∧ FrameEnd s o s₂ L kc ks
theorem own_step {U U' : State} (k1 : ∀ t, Steps p.tables e below U' t → Steps p.tables e below U t) (k2 : own_Ends p e below s kc ks Q U') : own_Ends p e below s kc ks Q U := by
  obtain ⟨s₂, o, h1, r⟩ := k2
  exact ⟨s₂, o, k1 _ h1, r⟩
theorem own_cast {g g' : JFrame} (q : g = g') (k : own_Ends p e below s kc ks Q (T.setTop g')) : own_Ends p e below s kc ks Q (T.setTop g) := q ▸ k
theorem own_ret0 (X : Stand p l e R s m args below meth c T locs cells slots) (hx : p.tables.exec = Jvm.exec) (hlk : meth.locks = false) (hret : meth.sig.returnType = none) {pc : Nat} {Ls : Array Slot}
    (hd : decode c.code pc = .ok (.return_, 1)) (hq : Q none T.heap locs) (hk : cells ≤ kc) (hn : slots ≤ ks) : own_Ends p e below s kc ks Q (T.setTop (mkF m pc Ls [])) := by
  obtain ⟨fs, hr, hrun, hended, hW, hsame⟩ := X.leave (v := none) (fun _ => rfl) hlk
  exact ⟨_, _, X.returnOut hx hret hd hr, hrun, hended, _, _, rfl, hq, ⟨_, rfl⟩, hW, hsame.mono hk hn⟩
theorem own_retN (X : Stand p l e R s m args below meth c T locs cells slots) (hx : p.tables.exec = Jvm.exec) (hlk : meth.locks = false) {t : FieldType} (hret : meth.sig.returnType = some t) (ht : t = .boolean ∨ t = .byte ∨ t = .char ∨ t = .short) {pc : Nat} {Ls : Array Slot} {z : Int32} {rest : List Value}
    (hd : decode c.code pc = .ok (.ireturn, 1)) {w : Int32} (hw : nar t z = w) (hq : Q (some (.int w)) T.heap locs) (hk : cells ≤ kc) (hn : slots ≤ ks) : own_Ends p e below s kc ks Q (T.setTop (mkF m pc Ls (.int z :: rest))) := by
  subst hw
  obtain ⟨fs, hr, hrun, hended, hW, hsame⟩ := X.leave (v := some (.int (nar t z))) (fun h => by rw [hret] at h; cases h) hlk
  exact ⟨_, _, retN X hx hret ht hd hr, hrun, hended, _, _, rfl, hq, ⟨_, rfl⟩, hW, hsame.mono hk hn⟩
theorem own_retI (X : Stand p l e R s m args below meth c T locs cells slots) (hx : p.tables.exec = Jvm.exec) (hlk : meth.locks = false) (hret : meth.sig.returnType = some .int) {pc : Nat} {Ls : Array Slot} {z : Int32} {rest : List Value}
    (hd : decode c.code pc = .ok (.ireturn, 1)) (hq : Q (some (.int z)) T.heap locs) (hk : cells ≤ kc) (hn : slots ≤ ks) : own_Ends p e below s kc ks Q (T.setTop (mkF m pc Ls (.int z :: rest))) := by
  obtain ⟨fs, hr, hrun, hended, hW, hsame⟩ := X.leave (v := some (.int z)) (fun h => by rw [hret] at h; cases h) hlk
  exact ⟨_, _, retOut X hx hret rfl (Or.inl ⟨rfl, Or.inl rfl, _, rfl⟩) hd hr, hrun, hended, _, _, rfl, hq, ⟨_, rfl⟩, hW, hsame.mono hk hn⟩
theorem own_retL (X : Stand p l e R s m args below meth c T locs cells slots) (hx : p.tables.exec = Jvm.exec) (hlk : meth.locks = false) (hret : meth.sig.returnType = some .long) {pc : Nat} {Ls : Array Slot} {z : Int64} {rest : List Value}
    (hd : decode c.code pc = .ok (.lreturn, 1)) (hq : Q (some (.long z)) T.heap locs) (hk : cells ≤ kc) (hn : slots ≤ ks) : own_Ends p e below s kc ks Q (T.setTop (mkF m pc Ls (.long z :: rest))) := by
  obtain ⟨fs, hr, hrun, hended, hW, hsame⟩ := X.leave (v := some (.long z)) (fun h => by rw [hret] at h; cases h) hlk
  exact ⟨_, _, retOut X hx hret rfl (Or.inr (Or.inl ⟨rfl, rfl, _, rfl⟩)) hd hr, hrun, hended, _, _, rfl, hq, ⟨_, rfl⟩, hW, hsame.mono hk hn⟩
theorem own_retA (X : Stand p l e R s m args below meth c T locs cells slots) (hx : p.tables.exec = Jvm.exec) (hlk : meth.locks = false) {t : FieldType} (hret : meth.sig.returnType = some t) {pc : Nat} {Ls : Array Slot} {z : Addr} {rest : List Value} (ht : t.isReference = true) (hnw : narrow t (.ref z) = .ref z)
    (hd : decode c.code pc = .ok (.areturn, 1)) (hq : Q (some (.ref z)) T.heap locs) (hk : cells ≤ kc) (hn : slots ≤ ks) : own_Ends p e below s kc ks Q (T.setTop (mkF m pc Ls (.ref z :: rest))) := by
  obtain ⟨fs, hr, hrun, hended, hW, hsame⟩ := X.leave (v := some (.ref z)) (fun h => by rw [hret] at h; cases h) hlk
  exact ⟨_, _, retOut X hx hret hnw (Or.inr (Or.inr (Or.inr (Or.inr ⟨rfl, ht, rfl⟩)))) hd hr, hrun, hended, _, _, rfl, hq, ⟨_, rfl⟩, hW, hsame.mono hk hn⟩
theorem own_lrem {g : JFrame} {target : State} (X : Stand p l e R s m args below meth c T locs cells slots) (hx : p.tables.exec = Jvm.exec) (hg : g.method = m) {x y : Int64} {rest : List Value} (hd : decode c.code g.pc = .ok (.lrem, 1)) (hs : g.stack = .long y :: .long x :: rest) (hy : y ≠ 0)
    (hr : Steps p.tables e below (T.setTop { g with pc := g.pc + 1, stack := .long (x % y) :: rest }) target) : Steps p.tables e below (T.setTop g) target := by
  have q : x - x / y * y = x % y := lrem_mod x y
  exact XS.lrem X.here hx hg hd hs hy (by rw [q]; exact hr)
theorem own_pop2L {g : JFrame} {target : State} (X : Stand p l e R s m args below meth c T locs cells slots) (hx : p.tables.exec = Jvm.exec) (hg : g.method = m) {x : Int64} {rest : List Value} (hd : decode c.code g.pc = .ok (.pop2, 1)) (hs : g.stack = .long x :: rest)
    (hr : Steps p.tables e below (T.setTop { g with pc := g.pc + 1, stack := rest }) target) : Steps p.tables e below (T.setTop g) target := by
  subst hg
  jvm_step X.here [X.here.top, hx, hd, hs, Value.category]
  exact hr
theorem own_swHit {g : JFrame} {target : State} (X : Stand p l e R s m args below meth c T locs cells slots) (hx : p.tables.exec = Jvm.exec) (hg : g.method = m) {k : Int32} {rest : List Value} (hs : g.stack = .int k :: rest) {dflt : Int} {pairs : Array (Int × Int)} {len : Nat} (hd : decode c.code g.pc = .ok (.lookupswitch dflt pairs, len))
    (hsorted : (pairs.toList.zip (pairs.toList.drop 1)).all (fun (a, next) => a.1 < next.1) = true) {a off : Int} (hfind : pairs.find? (·.1 == k.toInt) = some (a, off)) {pc0 pc' : Nat} (hpc : g.pc = pc0) (ho : 0 ≤ (pc0 : Int) + off) (hp : ((pc0 : Int) + off).toNat = pc')
    (hr : Steps p.tables e below (T.setTop { g with pc := pc', stack := rest }) target) : Steps p.tables e below (T.setTop g) target := by
  subst hpc
  subst hp
  exact X.lookupswitchHit hx hg hs hd hsorted hfind ho target hr
theorem own_swMiss {g : JFrame} {target : State} (X : Stand p l e R s m args below meth c T locs cells slots) (hx : p.tables.exec = Jvm.exec) (hg : g.method = m) {k : Int32} {rest : List Value} (hs : g.stack = .int k :: rest) {dflt : Int} {pairs : Array (Int × Int)} {len : Nat} (hd : decode c.code g.pc = .ok (.lookupswitch dflt pairs, len))
    (hsorted : (pairs.toList.zip (pairs.toList.drop 1)).all (fun (a, next) => a.1 < next.1) = true) (hfind : pairs.find? (·.1 == k.toInt) = none) {pc0 pc' : Nat} (hpc : g.pc = pc0) (ho : 0 ≤ (pc0 : Int) + dflt) (hp : ((pc0 : Int) + dflt).toNat = pc')
    (hr : Steps p.tables e below (T.setTop { g with pc := pc', stack := rest }) target) : Steps p.tables e below (T.setTop g) target := by
  subst hpc
  subst hp
  exact X.lookupswitchMiss hx hg hs hd hsorted hfind ho target hr
/-! arrays, by what each place holds -/
def own_up {α : Type} (f : Nat → α) (i : Nat) (x : α) : Nat → α := fun k => if k = i then x else f k
def own_AI (Z : State) (h : Heap) (a : Addr) (ty : FieldType) (n : Nat) (f : Nat → Int32) : Prop := ∃ c : Cell, Arr Z h a c ty ∧ c.slots.size = n ∧ ∀ k, k < n → c.slots[k]? = some (.int (f k))
def own_AJ (Z : State) (h : Heap) (a : Addr) (n : Nat) (f : Nat → Int64) : Prop := ∃ c : Cell, Arr Z h a c .long ∧ c.slots.size = n ∧ ∀ k, k < n → c.slots[k]? = some (.long (f k))
theorem own_AI.lt {ty : FieldType} {n : Nat} {f : Nat → Int32} (A : own_AI Z h a ty n f) : a < h.size := by obtain ⟨c, A, -⟩ := A; exact A.lt
theorem own_AI.ext {ty : FieldType} {n : Nat} {f : Nat → Int32} (A : own_AI Z h a ty n f) (E : Ext h h') : own_AI Z h' a ty n f := by obtain ⟨c, A, r⟩ := A; exact ⟨c, A.ext E, r⟩
theorem own_AI.other {ty : FieldType} {n : Nat} {f : Nat → Int32} {sl : Nat} {v : Value} (A : own_AI Z h b ty n f) (W : Wr h h' a sl v) (q : b ≠ a) : own_AI Z h' b ty n f := by obtain ⟨c, A, r⟩ := A; exact ⟨c, A.other W q, r⟩
theorem own_AI.keep {ty : FieldType} {n : Nat} {f : Nat → Int32} {ws : List Addr} (A : own_AI Z h a ty n f) (K : Keep h h' ws) (q : a ∉ ws) : own_AI Z h' a ty n f := by obtain ⟨c, A, r⟩ := A; exact ⟨c, ⟨K.2.1 a c A.1 q, A.2⟩, r⟩
theorem own_AJ.lt {n : Nat} {f : Nat → Int64} (A : own_AJ Z h a n f) : a < h.size := by obtain ⟨c, A, -⟩ := A; exact A.lt
theorem own_AJ.ext {n : Nat} {f : Nat → Int64} (A : own_AJ Z h a n f) (E : Ext h h') : own_AJ Z h' a n f := by obtain ⟨c, A, r⟩ := A; exact ⟨c, A.ext E, r⟩
theorem own_idx {j : Int32} {i n : Nat} {cl : Cell} (hi : j.toInt = (i : Int)) (hn : i < n) (hs : cl.slots.size = n) : ¬ (j < 0 ∨ cl.slots.size ≤ j.toNatClampNeg) ∧ j.toNatClampNeg = i := by
  have e : j.toNatClampNeg = i := by
    show j.toInt.toNat = i
    omega
  refine ⟨?_, e⟩
  rw [e, hs]
  intro q
  rcases q with q | q
  · rw [Int32.lt_iff_toInt_lt, hi] at q
    have z : (0 : Int32).toInt = 0 := by decide
    omega
  · omega
theorem own_set {n : Nat} {cl : Cell} {i : Nat} {v : Value} {g : Nat → Value} (hs : cl.slots.size = n) (hn : i < n) (hf : ∀ k, k < n → cl.slots[k]? = some (g k)) : (cl.setSlot i v).slots.size = n ∧ ∀ k, k < n → (cl.setSlot i v).slots[k]? = some (if k = i then v else g k) := by
  refine ⟨by rw [sz_set]; exact hs, fun k hk => ?_⟩
  by_cases q : k = i
  · subst q; simp [Cell.setSlot, hs, hn]
  · have : (cl.setSlot i v).slots[k]? = cl.slots[k]? := Array.getElem?_setIfInBounds_ne (fun z => q z.symm)
    rw [this, hf k hk, if_neg q]
theorem own_stI (X : Stand p l e R s m args below meth c T locs cells slots) (hx : p.tables.exec = Jvm.exec) (hZ : Z.Warmed39 s.vm) (eT : T.heap = h) {n : Nat} {f : Nat → Int32} (A : own_AI Z h a .int n f) {j x : Int32} (i : Nat) (hi : j.toInt = (i : Int)) (hn : i < n) {g : JFrame} (hg : g.method = m) {rest : List Value} (hs : g.stack = .int x :: .int j :: .ref a :: rest) (hd : decode c.code g.pc = .ok (.iastore, 1)) :
    ∃ T' h', Stand p l e R s m args below meth c T' (locs ++ [⟨a, i⟩]) cells slots ∧ T'.heap = h' ∧ Wr h h' a i (.int x) ∧ own_AI Z h' a .int n (own_up f i x) ∧ ∀ target, Steps p.tables e below (T'.setTop { g with pc := g.pc + 1, stack := rest }) target → Steps p.tables e below (T.setTop g) target := by
  obtain ⟨cl, A1, A2, A3⟩ := A
  obtain ⟨q1, q2⟩ := own_idx hi hn A2
  obtain ⟨T', h', X', e', W, st⟩ := stI X hx hZ eT A1 q1 hg hs hd
  rw [q2] at X' W
  obtain ⟨r1, r2⟩ := own_set (v := .int x) A2 hn A3
  refine ⟨T', h', X', e', W, ⟨cl.setSlot i (.int x), A1.same W, r1, fun k hk => ?_⟩, st⟩
  rw [r2 k hk]
  by_cases q : k = i
  · simp [own_up, q]
  · simp [own_up, q]
theorem own_stB (X : Stand p l e R s m args below meth c T locs cells slots) (hx : p.tables.exec = Jvm.exec) (hZ : Z.Warmed39 s.vm) (eT : T.heap = h) {n : Nat} {f : Nat → Int32} (A : own_AI Z h a .byte n f) {j x : Int32} (i : Nat) (hi : j.toInt = (i : Int)) (hn : i < n) {g : JFrame} (hg : g.method = m) {rest : List Value} (hs : g.stack = .int x :: .int j :: .ref a :: rest) (hd : decode c.code g.pc = .ok (.bastore, 1)) :
    ∃ T' h', Stand p l e R s m args below meth c T' (locs ++ [⟨a, i⟩]) cells slots ∧ T'.heap = h' ∧ Wr h h' a i (.int (x.toInt8.toInt32)) ∧ own_AI Z h' a .byte n (own_up f i (x.toInt8.toInt32)) ∧ ∀ target, Steps p.tables e below (T'.setTop { g with pc := g.pc + 1, stack := rest }) target → Steps p.tables e below (T.setTop g) target := by
  obtain ⟨cl, A1, A2, A3⟩ := A
  obtain ⟨q1, q2⟩ := own_idx hi hn A2
  obtain ⟨T', h', X', e', W, st⟩ := stB X hx hZ eT A1 q1 hg hs hd
  rw [q2] at X' W
  obtain ⟨r1, r2⟩ := own_set (v := .int (x.toInt8.toInt32)) A2 hn A3
  refine ⟨T', h', X', e', W, ⟨cl.setSlot i (.int (x.toInt8.toInt32)), A1.same W, r1, fun k hk => ?_⟩, st⟩
  rw [r2 k hk]
  by_cases q : k = i
  · simp [own_up, q]
  · simp [own_up, q]
theorem own_stJ (X : Stand p l e R s m args below meth c T locs cells slots) (hx : p.tables.exec = Jvm.exec) (hZ : Z.Warmed39 s.vm) (eT : T.heap = h) {n : Nat} {f : Nat → Int64} (A : own_AJ Z h a n f) {j : Int32} {x : Int64} (i : Nat) (hi : j.toInt = (i : Int)) (hn : i < n) {g : JFrame} (hg : g.method = m) {rest : List Value} (hs : g.stack = .long x :: .int j :: .ref a :: rest) (hd : decode c.code g.pc = .ok (.lastore, 1)) :
    ∃ T' h', Stand p l e R s m args below meth c T' (locs ++ [⟨a, i⟩]) cells slots ∧ T'.heap = h' ∧ Wr h h' a i (.long x) ∧ own_AJ Z h' a n (own_up f i x) ∧ ∀ target, Steps p.tables e below (T'.setTop { g with pc := g.pc + 1, stack := rest }) target → Steps p.tables e below (T.setTop g) target := by
  obtain ⟨cl, A1, A2, A3⟩ := A
  obtain ⟨q1, q2⟩ := own_idx hi hn A2
  obtain ⟨T', h', X', e', W, st⟩ := stJ X hx hZ eT A1 q1 hg hs hd
  rw [q2] at X' W
  obtain ⟨r1, r2⟩ := own_set (v := .long x) A2 hn A3
  refine ⟨T', h', X', e', W, ⟨cl.setSlot i (.long x), A1.same W, r1, fun k hk => ?_⟩, st⟩
  rw [r2 k hk]
  by_cases q : k = i
  · simp [own_up, q]
  · simp [own_up, q]
theorem own_ldI (X : Stand p l e R s m args below meth c T locs cells slots) (hx : p.tables.exec = Jvm.exec) (hZ : Z.Warmed39 s.vm) (eT : T.heap = h) {n : Nat} {f : Nat → Int32} (A : own_AI Z h a .int n f) {j : Int32} (i : Nat) (hi : j.toInt = (i : Int)) (hn : i < n) {g : JFrame} (hg : g.method = m) {rest : List Value} (hs : g.stack = .int j :: .ref a :: rest) (hd : decode c.code g.pc = .ok (.iaload, 1)) :
    ∀ target, Steps p.tables e below (T.setTop { g with pc := g.pc + 1, stack := .int (f i) :: rest }) target → Steps p.tables e below (T.setTop g) target := by
  obtain ⟨cl, A1, A2, A3⟩ := A
  obtain ⟨q1, q2⟩ := own_idx hi hn A2
  exact X.iaload hx (j := j) (v := .int (f i)) (by rw [eT]; exact A1.1) (State.isArrayOf_alike hZ.alike A1.2.1) A1.2.2 q1 (by rw [q2]; exact A3 i hn) hg hs hd
theorem own_ldB (X : Stand p l e R s m args below meth c T locs cells slots) (hx : p.tables.exec = Jvm.exec) (hZ : Z.Warmed39 s.vm) (eT : T.heap = h) {n : Nat} {f : Nat → Int32} (A : own_AI Z h a .byte n f) {j : Int32} (i : Nat) (hi : j.toInt = (i : Int)) (hn : i < n) {g : JFrame} (hg : g.method = m) {rest : List Value} (hs : g.stack = .int j :: .ref a :: rest) (hd : decode c.code g.pc = .ok (.baload, 1)) :
    ∀ target, Steps p.tables e below (T.setTop { g with pc := g.pc + 1, stack := .int (f i) :: rest }) target → Steps p.tables e below (T.setTop g) target := by
  obtain ⟨cl, A1, A2, A3⟩ := A
  obtain ⟨q1, q2⟩ := own_idx hi hn A2
  exact X.baloadBytes hx (j := j) (v := .int (f i)) (by rw [eT]; exact A1.1) (State.isArrayOf_alike hZ.alike A1.2.1) A1.2.2 q1 (by rw [q2]; exact A3 i hn) hg hs hd
theorem own_ldJ (X : Stand p l e R s m args below meth c T locs cells slots) (hx : p.tables.exec = Jvm.exec) (hZ : Z.Warmed39 s.vm) (eT : T.heap = h) {n : Nat} {f : Nat → Int64} (A : own_AJ Z h a n f) {j : Int32} (i : Nat) (hi : j.toInt = (i : Int)) (hn : i < n) {g : JFrame} (hg : g.method = m) {rest : List Value} (hs : g.stack = .int j :: .ref a :: rest) (hd : decode c.code g.pc = .ok (.laload, 1)) :
    ∀ target, Steps p.tables e below (T.setTop { g with pc := g.pc + 1, stack := .long (f i) :: rest }) target → Steps p.tables e below (T.setTop g) target := by
  obtain ⟨cl, A1, A2, A3⟩ := A
  obtain ⟨q1, q2⟩ := own_idx hi hn A2
  exact X.laload hx (j := j) (v := .long (f i)) (by rw [eT]; exact A1.1) (State.isArrayOf_alike hZ.alike A1.2.1) A1.2.2 q1 (by rw [q2]; exact A3 i hn) hg hs hd
theorem own_lenI (X : Stand p l e R s m args below meth c T locs cells slots) (hx : p.tables.exec = Jvm.exec) (hZ : Z.Warmed39 s.vm) (eT : T.heap = h) {ty : FieldType} {n : Nat} {f : Nat → Int32} (A : own_AI Z h a ty n f) {z : Int32} (hz : n.toInt32 = z) {g : JFrame} (hg : g.method = m) {rest : List Value} (hs : g.stack = .ref a :: rest) (hd : decode c.code g.pc = .ok (.arraylength, 1)) :
    ∀ target, Steps p.tables e below (T.setTop { g with pc := g.pc + 1, stack := .int z :: rest }) target → Steps p.tables e below (T.setTop g) target := by
  obtain ⟨cl, A1, A2, A3⟩ := A
  intro t k
  refine X.arraylength hx (by rw [eT]; exact A1.1) (State.isArrayOf_alike hZ.alike A1.2.1) hg hs hd t ?_
  rw [A2, hz]; exact k
theorem own_newI (X : Stand p l e R s m args below meth c T locs cells slots) (hx : p.tables.exec = Jvm.exec) (hZ : Z.Warmed39 s.vm) {a0 : Array Value} {aty : ArrayType} (w : (Cond.arrayClass (newarray.typeOf aty)).before a0 Z = true) (eT : T.heap = h) {g : JFrame} (hg : g.method = m) (hd : decode c.code g.pc = .ok (.newarray aty, 2)) {n : Int32} {rest : List Value} (hs : g.stack = .int n :: rest)
    {N : Nat} (hn : n.toInt = (N : Int)) (hb : N * 8 ≤ 536870912) (hc : cells + 1 ≤ R.cells) (hl : slots + N ≤ R.slots) (hdv : defaultValue (newarray.typeOf aty) = .int 0) :
    ∃ T' h', Stand p l e R s m args below meth c T' locs (cells + 1) (slots + N) ∧ T'.heap = h' ∧ Ext h h' ∧ own_AI Z h' h.size (newarray.typeOf aty) N (fun _ => 0) ∧
      ∀ target, Steps p.tables e below (T'.setTop { g with pc := g.pc + 2, stack := .ref h.size :: rest }) target → Steps p.tables e below (T.setTop g) target := by
  have e1 : n.toNatClampNeg = N := by
    show n.toInt.toNat = N
    omega
  have e2 : ¬ n < 0 := by
    rw [Int32.lt_iff_toInt_lt, hn]
    have z : (0 : Int32).toInt = 0 := by decide
    omega
  obtain ⟨T', h', cA, X', e', E, A, st⟩ := newP X hx hZ w eT hg hd hs e2 (cap := N) (by omega) hb hc hl
  refine ⟨T', h', X', e', E, ⟨_, A, by rw [sz_new, e1], fun k hk => ?_⟩, st⟩
  simp [newA, e1, hk, hdv]
theorem own_newJ (X : Stand p l e R s m args below meth c T locs cells slots) (hx : p.tables.exec = Jvm.exec) (hZ : Z.Warmed39 s.vm) {a0 : Array Value} (w : (Cond.arrayClass (newarray.typeOf .long)).before a0 Z = true) (eT : T.heap = h) {g : JFrame} (hg : g.method = m) (hd : decode c.code g.pc = .ok (.newarray .long, 2)) {n : Int32} {rest : List Value} (hs : g.stack = .int n :: rest)
    {N : Nat} (hn : n.toInt = (N : Int)) (hb : N * 8 ≤ 536870912) (hc : cells + 1 ≤ R.cells) (hl : slots + N ≤ R.slots) :
    ∃ T' h', Stand p l e R s m args below meth c T' locs (cells + 1) (slots + N) ∧ T'.heap = h' ∧ Ext h h' ∧ own_AJ Z h' h.size N (fun _ => 0) ∧
      ∀ target, Steps p.tables e below (T'.setTop { g with pc := g.pc + 2, stack := .ref h.size :: rest }) target → Steps p.tables e below (T.setTop g) target := by
  have e1 : n.toNatClampNeg = N := by
    show n.toInt.toNat = N
    omega
  have e2 : ¬ n < 0 := by
    rw [Int32.lt_iff_toInt_lt, hn]
    have z : (0 : Int32).toInt = 0 := by decide
    omega
  obtain ⟨T', h', cA, X', e', E, A, st⟩ := newP X hx hZ w eT hg hd hs e2 (cap := N) (by omega) hb hc hl
  refine ⟨T', h', X', e', E, ⟨_, A, by rw [sz_new, e1], fun k hk => ?_⟩, st⟩
  simp [newA, e1, hk, defaultValue, newarray.typeOf]
end OwnKit
theorem d5_0 : decode prog_30_method_1_code 0 = .ok (.aload_n 0, 1) := by decide +kernel
theorem d5_1 : decode prog_30_method_1_code 1 = .ok (.invokespecial 3, 3) := by decide +kernel
theorem d5_4 : decode prog_30_method_1_code 4 = .ok (.aload_n 0, 1) := by decide +kernel
theorem d5_5 : decode prog_30_method_1_code 5 = .ok (.aload_n 1, 1) := by decide +kernel
theorem d5_6 : decode prog_30_method_1_code 6 = .ok (.putfield 9, 3) := by decide +kernel
theorem d5_9 : decode prog_30_method_1_code 9 = .ok (.aload_n 0, 1) := by decide +kernel
theorem d5_10 : decode prog_30_method_1_code 10 = .ok (.iload_n 2, 1) := by decide +kernel
theorem d5_11 : decode prog_30_method_1_code 11 = .ok (.putfield 15, 3) := by decide +kernel
theorem d5_14 : decode prog_30_method_1_code 14 = .ok (.return_, 1) := by decide +kernel
theorem pn_5 : plainName "com/example/weftline/weftline/runner/CompactWire$Body" = true := by first | (simp [plainName, overriddenIn]; done) | decide +kernel
theorem ef_5 (m : MethodId) (r0 : Addr) (r1 : Addr) (p2 : Int32) : entryFrame m #[(.ref r0), (.ref r1), (.int p2)] 3 = mkF m 0 #[.val (.ref r0), .val (.ref r1), .val (.int p2)] [] := by first | (simp [entryFrame, mkF, argsToLocals, Value.category]; done) | rfl
def Q5 (Z : State) (r0 : Addr) (r1 : Addr) (p2 : Int32) (h0 : Heap) (n0 : Nat) (v : Option Value) (h : Heap) (L : List Loc) : Prop := v = none ∧ Fr n0 L ∧ n0 ≤ h.size ∧ Keep h0 h [r0] ∧ Exa Z h r0 "com/example/weftline/weftline/runner/CompactWire$Body" ∧ Fld Z h r0 "com/example/weftline/weftline/runner/CompactWire$Body" "bytes" "[B" (.ref r1) ∧ Fld Z h r0 "com/example/weftline/weftline/runner/CompactWire$Body" "end" "I" (.int p2) ∧ Fld Z h r0 "com/example/weftline/weftline/runner/CompactWire$Body" "position" "I" (.int (0 : Int32))
set_option maxRecDepth 65536 in
set_option maxHeartbeats 40000000 in
theorem rm5 (l : Launch) (Z : State) (a0 : Array Value) (hw : ∀ d ∈ tables_1, d.before a0 Z = true) (ws : List Jvm.Cond) (r0 : Addr) (r1 : Addr) (p2 : Int32) (h0 : Heap) (n0 : Nat) (Z0 : n0 ≤ h0.size) (gn_r0 : n0 ≤ r0) (E_0 : Exa Z h0 r0 "com/example/weftline/weftline/runner/CompactWire$Body") (F_bytes : Fld Z h0 r0 "com/example/weftline/weftline/runner/CompactWire$Body" "bytes" "[B" .null) (F_end : Fld Z h0 r0 "com/example/weftline/weftline/runner/CompactWire$Body" "end" "I" (.int (0 : Int32))) (F_position : Fld Z h0 r0 "com/example/weftline/weftline/runner/CompactWire$Body" "position" "I" (.int (0 : Int32))) :
    MetFree l (⟨"com/example/weftline/weftline/runner/CompactWire$Body", "<init>", "([BI)V"⟩ : MethodName) (head1 (Jvm.Cond.code (⟨"com/example/weftline/weftline/runner/CompactWire$Body", "<init>", "([BI)V"⟩ : MethodName) prog_30_method_1_code 3 none :: ws) ({ frames := 1, cells := 0, slots := 0, locals := 12 } : Room)) (fun a U => a = #[(.ref r0), (.ref r1), (.int p2)] ∧ Z.Warmed39 U.vm ∧ U.heap = h0) (fun _ _ _ _ _ => True) (fun _ U o U' => ∃ v L, o = .returned v ∧ (Q5 Z r0 r1 p2 h0 n0) v U'.heap L ∧ FrameEnd U o U' L ({ frames := 1, cells := 0, slots := 0, locals := 12 } : Room).cells ({ frames := 1, cells := 0, slots := 0, locals := 12 } : Room).slots) := by
  refine MetFree.of_bodySF (plainFor_of_name pn_5) hisR ?_
  intro p e s m args below meth c s₁ Bd hml0 hP hK
  obtain ⟨rfl, hZ, hh⟩ := hP
  have hx := Bd.exec
  have hby := Bd.bytes
  have hret := Bd.returns
  have hlk := BodyLoose.notSynchronized Bd
  have hml : c.maxLocals = 3 := hml0
  have hown : s.vm.findClass "com/example/weftline/weftline/runner/CompactWire$Body" = some m.cls := findClass_of_methodNamed Bd.named
  have hnm := (name_of_methodNamed Bd.named Bd.method).1
  have X0 : Stand p l e ({ frames := 1, cells := 0, slots := 0, locals := 12 } : Room) s m #[(.ref r0), (.ref r1), (.int p2)] below meth c s₁ [] 0 0 := Stand.of_body Bd
  have e0 : s₁.heap = h0 := by rw [← hh, Bd.state]; rfl
  have N0 := Fr.nil n0
  show own_Ends p e below s ({ frames := 1, cells := 0, slots := 0, locals := 12 } : Room).cells ({ frames := 1, cells := 0, slots := 0, locals := 12 } : Room).slots (Q5 Z r0 r1 p2 h0 n0) (s₁.setTop (entryFrame m #[(.ref r0), (.ref r1), (.int p2)] 3))
  refine own_cast (ef_5 m r0 r1 p2) ?_
  have u1 := (Keep.refl h0 [r0])
  show own_Ends p e below s _ _ _ (s₁.setTop (mkF m 0 #[.val (.ref r0), .val (.ref r1), .val (.int p2)] []))
  refine own_step (fun t k => XS.aloadN X0.here hx rfl (hb hby d5_0) rfl rfl k) ?_
  show own_Ends p e below s _ _ _ (s₁.setTop (mkF m 1 #[.val (.ref r0), .val (.ref r1), .val (.int p2)] [(.ref r0)]))
  obtain ⟨T2, X2, e2, st2⟩ := initO X0 hx hZ hown (hw _ (List.mem_of_getElem? (i := 23) rfl)) (hw _ (List.mem_of_getElem? (i := 24) rfl)) (hw _ (List.mem_of_getElem? (i := 25) rfl)) e0 (g := (mkF m 1 #[.val (.ref r0), .val (.ref r1), .val (.int p2)] [(.ref r0)])) rfl (by rw [hml]; rfl) rfl (hb hby d5_1) (by decide) (W := 0) (by show 2 * 0 + _ ≤ _; exact Nat.le_of_eq rfl) (by decide)
  refine own_step st2 ?_
  show own_Ends p e below s _ _ _ (T2.setTop (mkF m 4 #[.val (.ref r0), .val (.ref r1), .val (.int p2)] []))
  refine own_step (fun t k => XS.aloadN X2.here hx rfl (hb hby d5_4) rfl rfl k) ?_
  show own_Ends p e below s _ _ _ (T2.setTop (mkF m 5 #[.val (.ref r0), .val (.ref r1), .val (.int p2)] [(.ref r0)]))
  refine own_step (fun t k => XS.aloadN X2.here hx rfl (hb hby d5_5) rfl rfl k) ?_
  show own_Ends p e below s _ _ _ (T2.setTop (mkF m 6 #[.val (.ref r0), .val (.ref r1), .val (.int p2)] [(.ref r1), (.ref r0)]))
  obtain ⟨T3, h3, X3, e3, W3, st3⟩ := putF X2 hx hZ hown (host := "") (Or.inl (hw _ (List.mem_of_getElem? (i := 26) rfl))) Via.refl e2 F_bytes E_0 (Or.inr ⟨(hw _ (List.mem_of_getElem? (i := 27) rfl)), rfl, hnm⟩) (hw _ (List.mem_of_getElem? (i := 18) rfl)) (ty := (.array .byte)) (by decide) rfl rfl (g := (mkF m 6 #[.val (.ref r0), .val (.ref r1), .val (.int p2)] [(.ref r1), (.ref r0)])) rfl rfl (hb hby d5_6)
  refine own_step st3 ?_
  have N3 := Fr.snoc X3 N0 gn_r0
  have Z3 : n0 ≤ h3.size := by rw [W3.size]; exact Z0
  have u4 := (E_0.wr W3)
  have u5 := (F_bytes.same W3)
  have u6 := (F_end.other W3 (Or.inr (slot_ne (Or.inr (hw _ (List.mem_of_getElem? (i := 29) rfl))) (Or.inr (hw _ (List.mem_of_getElem? (i := 27) rfl))) (by decide) (t := .int) (t' := (.array .byte)) (by decide) (by decide))))
  have u7 := (F_position.other W3 (Or.inr (slot_ne (Or.inl (hw _ (List.mem_of_getElem? (i := 36) rfl))) (Or.inr (hw _ (List.mem_of_getElem? (i := 27) rfl))) (by decide) (t := .int) (t' := (.array .byte)) (by decide) (by decide))))
  have u8 := (u1.wr W3 (Or.inl (List.mem_of_getElem? (i := 0) rfl)))
  show own_Ends p e below s _ _ _ (T3.setTop (mkF m 9 #[.val (.ref r0), .val (.ref r1), .val (.int p2)] []))
  refine own_step (fun t k => XS.aloadN X3.here hx rfl (hb hby d5_9) rfl rfl k) ?_
  show own_Ends p e below s _ _ _ (T3.setTop (mkF m 10 #[.val (.ref r0), .val (.ref r1), .val (.int p2)] [(.ref r0)]))
  refine own_step (fun t k => XS.iloadN X3.here hx rfl (hb hby d5_10) rfl k) ?_
  show own_Ends p e below s _ _ _ (T3.setTop (mkF m 11 #[.val (.ref r0), .val (.ref r1), .val (.int p2)] [(.int p2), (.ref r0)]))
  obtain ⟨T9, h9, X9, e9, W9, st9⟩ := putF X3 hx hZ hown (host := "") (Or.inl (hw _ (List.mem_of_getElem? (i := 28) rfl))) Via.refl e3 u6 u4 (Or.inr ⟨(hw _ (List.mem_of_getElem? (i := 29) rfl)), rfl, hnm⟩) (hw _ (List.mem_of_getElem? (i := 18) rfl)) (ty := .int) (by decide) rfl rfl (g := (mkF m 11 #[.val (.ref r0), .val (.ref r1), .val (.int p2)] [(.int p2), (.ref r0)])) rfl rfl (hb hby d5_11)
  refine own_step st9 ?_
  have N9 := Fr.snoc X9 N3 gn_r0
  have Z9 : n0 ≤ h9.size := by rw [W9.size]; exact Z3
  have u10 := (u4.wr W9)
  have u11 := (u5.other W9 (Or.inr (slot_ne (Or.inr (hw _ (List.mem_of_getElem? (i := 27) rfl))) (Or.inr (hw _ (List.mem_of_getElem? (i := 29) rfl))) (by decide) (t := (.array .byte)) (t' := .int) (by decide) (by decide))))
  have u12 := (u6.same W9)
  have u13 := (u7.other W9 (Or.inr (slot_ne (Or.inl (hw _ (List.mem_of_getElem? (i := 36) rfl))) (Or.inr (hw _ (List.mem_of_getElem? (i := 29) rfl))) (by decide) (t := .int) (t' := .int) (by decide) (by decide))))
  have u14 := (u8.wr W9 (Or.inl (List.mem_of_getElem? (i := 0) rfl)))
  show own_Ends p e below s _ _ _ (T9.setTop (mkF m 14 #[.val (.ref r0), .val (.ref r1), .val (.int p2)] []))
  exact own_ret0 X9 hx hlk hret (hb hby d5_14) (by rw [e9]; exact ⟨rfl, N9, Z9, u14, u10, u11, u12, u13⟩) (by decide) (by decide)
theorem d8_0 : decode prog_30_method_2_code 0 = .ok (.aload_n 0, 1) := by decide +kernel
theorem d8_1 : decode prog_30_method_2_code 1 = .ok (.getfield 19, 3) := by decide +kernel
theorem d8_4 : decode prog_30_method_2_code 4 = .ok (.aload_n 0, 1) := by decide +kernel
theorem d8_5 : decode prog_30_method_2_code 5 = .ok (.getfield 15, 3) := by decide +kernel
theorem d8_8 : decode prog_30_method_2_code 8 = .ok (.if_icmp .ge 7, 3) := by decide +kernel
theorem d8_11 : decode prog_30_method_2_code 11 = .ok (.iconst 1, 1) := by decide +kernel
theorem d8_12 : decode prog_30_method_2_code 12 = .ok (.goto 4, 3) := by decide +kernel
theorem d8_15 : decode prog_30_method_2_code 15 = .ok (.iconst 0, 1) := by decide +kernel
theorem d8_16 : decode prog_30_method_2_code 16 = .ok (.ireturn, 1) := by decide +kernel
theorem pn_8 : plainName "com/example/weftline/weftline/runner/CompactWire$Body" = true := by first | (simp [plainName, overriddenIn]; done) | decide +kernel
theorem ef_8 (m : MethodId) (r0 : Addr) : entryFrame m #[(.ref r0)] 1 = mkF m 0 #[.val (.ref r0)] [] := by first | (simp [entryFrame, mkF, argsToLocals, Value.category]; done) | rfl
def f8_0 (vp : Int32) (ve : Int32) : Int32 := (if vp < ve then (1 : Int32) else (0 : Int32))
def Q8 (Z : State) (r0 : Addr) (vp : Int32) (ve : Int32) (h0 : Heap) (n0 : Nat) (v : Option Value) (h : Heap) (L : List Loc) : Prop := v = some (.int (f8_0 vp ve)) ∧ Fr n0 L ∧ h = h0
set_option maxRecDepth 65536 in
set_option maxHeartbeats 40000000 in
theorem rm8 (l : Launch) (Z : State) (a0 : Array Value) (hw : ∀ d ∈ tables_1, d.before a0 Z = true) (ws : List Jvm.Cond) (r0 : Addr) (vp : Int32) (ve : Int32) (h0 : Heap) (n0 : Nat) (F_position : Fld Z h0 r0 "com/example/weftline/weftline/runner/CompactWire$Body" "position" "I" (.int vp)) (F_end : Fld Z h0 r0 "com/example/weftline/weftline/runner/CompactWire$Body" "end" "I" (.int ve)) :
    MetFree l (⟨"com/example/weftline/weftline/runner/CompactWire$Body", "more", "()Z"⟩ : MethodName) (head1 (Jvm.Cond.code (⟨"com/example/weftline/weftline/runner/CompactWire$Body", "more", "()Z"⟩ : MethodName) prog_30_method_2_code 1 (some .boolean) :: ws) ({ frames := 0, cells := 0, slots := 0, locals := 0 } : Room)) (fun a U => a = #[(.ref r0)] ∧ Z.Warmed39 U.vm ∧ U.heap = h0) (fun _ _ _ _ _ => True) (fun _ U o U' => ∃ v L, o = .returned v ∧ (Q8 Z r0 vp ve h0 n0) v U'.heap L ∧ FrameEnd U o U' L ({ frames := 0, cells := 0, slots := 0, locals := 0 } : Room).cells ({ frames := 0, cells := 0, slots := 0, locals := 0 } : Room).slots) := by
  refine MetFree.of_bodySF (plainFor_of_name pn_8) hisR ?_
  intro p e s m args below meth c s₁ Bd hml0 hP hK
  obtain ⟨rfl, hZ, hh⟩ := hP
  have hx := Bd.exec
  have hby := Bd.bytes
  have hret := Bd.returns
  have hlk := BodyLoose.notSynchronized Bd
  have hml : c.maxLocals = 1 := hml0
  have hown : s.vm.findClass "com/example/weftline/weftline/runner/CompactWire$Body" = some m.cls := findClass_of_methodNamed Bd.named
  have hnm := (name_of_methodNamed Bd.named Bd.method).1
  have X0 : Stand p l e ({ frames := 0, cells := 0, slots := 0, locals := 0 } : Room) s m #[(.ref r0)] below meth c s₁ [] 0 0 := Stand.of_body Bd
  have e0 : s₁.heap = h0 := by rw [← hh, Bd.state]; rfl
  have N0 := Fr.nil n0
  show own_Ends p e below s ({ frames := 0, cells := 0, slots := 0, locals := 0 } : Room).cells ({ frames := 0, cells := 0, slots := 0, locals := 0 } : Room).slots (Q8 Z r0 vp ve h0 n0) (s₁.setTop (entryFrame m #[(.ref r0)] 1))
  refine own_cast (ef_8 m r0) ?_
  show own_Ends p e below s _ _ _ (s₁.setTop (mkF m 0 #[.val (.ref r0)] []))
  refine own_step (fun t k => XS.aloadN X0.here hx rfl (hb hby d8_0) rfl rfl k) ?_
  show own_Ends p e below s _ _ _ (s₁.setTop (mkF m 1 #[.val (.ref r0)] [(.ref r0)]))
  obtain ⟨T1, X1, e1, st1⟩ := getF X0 hx hZ hown (host := "") (Or.inl (hw _ (List.mem_of_getElem? (i := 35) rfl))) Via.refl e0 F_position (g := (mkF m 1 #[.val (.ref r0)] [(.ref r0)])) rfl rfl (hb hby d8_1)
  refine own_step st1 ?_
  show own_Ends p e below s _ _ _ (T1.setTop (mkF m 4 #[.val (.ref r0)] [(.int vp)]))
  refine own_step (fun t k => XS.aloadN X1.here hx rfl (hb hby d8_4) rfl rfl k) ?_
  show own_Ends p e below s _ _ _ (T1.setTop (mkF m 5 #[.val (.ref r0)] [(.ref r0), (.int vp)]))
  obtain ⟨T2, X2, e2, st2⟩ := getF X1 hx hZ hown (host := "") (Or.inl (hw _ (List.mem_of_getElem? (i := 28) rfl))) Via.refl e1 F_end (g := (mkF m 5 #[.val (.ref r0)] [(.ref r0), (.int vp)])) rfl rfl (hb hby d8_5)
  refine own_step st2 ?_
  show own_Ends p e below s _ _ _ (T2.setTop (mkF m 8 #[.val (.ref r0)] [(.int ve), (.int vp)]))
  by_cases hc8_3 : vp < ve
  · -- vp < ve
    refine own_step (fun t k => XS.icmpNo X2.here hx rfl (hb hby d8_8) rfl (tlt hc8_3).2.1 k) ?_
    show own_Ends p e below s _ _ _ (T2.setTop (mkF m 11 #[.val (.ref r0)] []))
    refine own_step (fun t k => XS.iconst X2.here hx rfl (hb hby d8_11) k) ?_
    show own_Ends p e below s _ _ _ (T2.setTop (mkF m 12 #[.val (.ref r0)] [(.int (1 : Int32))]))
    refine own_step (fun t k => XS.goto X2.here hx rfl (pc0 := 12) (pc' := 16) rfl (hb hby d8_12) (by decide) (by decide) k) ?_
    show own_Ends p e below s _ _ _ (T2.setTop (mkF m 16 #[.val (.ref r0)] [(.int (1 : Int32))]))
    exact own_retN X2 hx hlk (t := .boolean) hret (by simp) (hb hby d8_16) (w := (1 : Int32)) (by decide) ⟨congrArg (fun w => some (Value.int w)) (Eq.symm ((show f8_0 vp ve = _ from rfl).trans (if_pos hc8_3))), N0, e2⟩ (by decide) (by decide)
  · -- not vp < ve
    refine own_step (fun t k => XS.icmpYes X2.here hx rfl (pc0 := 8) (pc' := 15) rfl (hb hby d8_8) rfl (flt hc8_3).2.1 (by decide) (by decide) k) ?_
    show own_Ends p e below s _ _ _ (T2.setTop (mkF m 15 #[.val (.ref r0)] []))
    refine own_step (fun t k => XS.iconst X2.here hx rfl (hb hby d8_15) k) ?_
    show own_Ends p e below s _ _ _ (T2.setTop (mkF m 16 #[.val (.ref r0)] [(.int (0 : Int32))]))
    exact own_retN X2 hx hlk (t := .boolean) hret (by simp) (hb hby d8_16) (w := (0 : Int32)) (by decide) ⟨congrArg (fun w => some (Value.int w)) (Eq.symm ((show f8_0 vp ve = _ from rfl).trans (if_neg hc8_3))), N0, e2⟩ (by decide) (by decide)
def own_acc (f : Nat → Int32) (P : Nat) : Nat → Int64
  | 0 => 0
  | i + 1 => own_acc f P i ||| (((f (P + i) &&& (255 : Int32)) &&& (127 : Int32)).toInt64 <<< (Int32.ofNat (7 * i) &&& 0x3f).toInt64)
theorem own_shI {i : Nat} (h : i ≤ 20) : (Int32.ofNat (7 * i)).toInt = ((7 * i : Nat) : Int) := Int32.toInt_ofNat_of_lt (by omega)
theorem own_sh64 {i : Nat} (h : i ≤ 9) : (Int32.ofNat (7 * i)) < (64 : Int32) := by
  have e := own_shI (i := i) (by omega)
  rw [Int32.lt_iff_toInt_lt, e]
  have z : (64 : Int32).toInt = 64 := by decide
  omega
theorem own_is9 {i : Nat} (h : i ≤ 9) (q : (Int32.ofNat (7 * i)) = (63 : Int32)) : i = 9 := by
  have e := own_shI (i := i) (by omega)
  rw [q] at e
  have z : (63 : Int32).toInt = 63 := by decide
  omega
theorem own_shS {i : Nat} (h : i ≤ 9) : Int32.ofNat (7 * i) + (7 : Int32) = Int32.ofNat (7 * (i + 1)) := by
  apply Int32.toInt_inj.mp
  have e := own_shI (i := i) (by omega)
  have e' := own_shI (i := i + 1) (by omega)
  have a := c_iadd (Int32.ofNat (7 * i)) 7
  have r := rng32 (Int32.ofNat (7 * i) + 7)
  have z : (7 : Int32).toInt = 7 := by decide
  omega
theorem own_w1 {w : Int32} {n : Nat} (h : w.toInt = (n : Int)) (hn : n < 1000) : (w + (1 : Int32)).toInt = ((n + 1 : Nat) : Int) := by
  have a := c_iadd w 1
  have r := rng32 (w + 1)
  have z : (1 : Int32).toInt = 1 := by decide
  omega
theorem osV {r : Addr} {q : Int64} {z v : Int32} {s4 : Slot} (h : One s4) : storeLocals #[.val (.ref r), .val (.long q), .second, .val (.int z), s4] 4 (.int v) = some #[.val (.ref r), .val (.long q), .second, .val (.int z), .val (.int v)] := by
  rcases h with rfl | ⟨w, rfl, hw⟩
  · rfl
  · cases w <;> first | rfl | (simp [Value.category] at hw)
theorem d7_0 : decode prog_30_method_3_code 0 = .ok (.lconst 0, 1) := by decide +kernel
theorem d7_1 : decode prog_30_method_3_code 1 = .ok (.lstore_n 1, 1) := by decide +kernel
theorem d7_2 : decode prog_30_method_3_code 2 = .ok (.iconst 0, 1) := by decide +kernel
theorem d7_3 : decode prog_30_method_3_code 3 = .ok (.istore_n 3, 1) := by decide +kernel
theorem d7_4 : decode prog_30_method_3_code 4 = .ok (.iload_n 3, 1) := by decide +kernel
theorem d7_5 : decode prog_30_method_3_code 5 = .ok (.bipush 64, 2) := by decide +kernel
theorem d7_7 : decode prog_30_method_3_code 7 = .ok (.if_icmp .ge 89, 3) := by decide +kernel
theorem d7_10 : decode prog_30_method_3_code 10 = .ok (.aload_n 0, 1) := by decide +kernel
theorem d7_11 : decode prog_30_method_3_code 11 = .ok (.getfield 19, 3) := by decide +kernel
theorem d7_14 : decode prog_30_method_3_code 14 = .ok (.aload_n 0, 1) := by decide +kernel
theorem d7_15 : decode prog_30_method_3_code 15 = .ok (.getfield 15, 3) := by decide +kernel
theorem d7_18 : decode prog_30_method_3_code 18 = .ok (.if_icmp .ne 13, 3) := by decide +kernel
theorem d7_21 : decode prog_30_method_3_code 21 = .ok (.new 22, 3) := by decide +kernel
theorem d7_24 : decode prog_30_method_3_code 24 = .ok (.dup, 1) := by decide +kernel
theorem d7_25 : decode prog_30_method_3_code 25 = .ok (.ldc 24, 2) := by decide +kernel
theorem d7_27 : decode prog_30_method_3_code 27 = .ok (.invokespecial 26, 3) := by decide +kernel
theorem d7_30 : decode prog_30_method_3_code 30 = .ok (.athrow, 1) := by decide +kernel
theorem d7_31 : decode prog_30_method_3_code 31 = .ok (.aload_n 0, 1) := by decide +kernel
theorem d7_32 : decode prog_30_method_3_code 32 = .ok (.getfield 9, 3) := by decide +kernel
theorem d7_35 : decode prog_30_method_3_code 35 = .ok (.aload_n 0, 1) := by decide +kernel
theorem d7_36 : decode prog_30_method_3_code 36 = .ok (.dup, 1) := by decide +kernel
theorem d7_37 : decode prog_30_method_3_code 37 = .ok (.getfield 19, 3) := by decide +kernel
theorem d7_40 : decode prog_30_method_3_code 40 = .ok (.dup_x1, 1) := by decide +kernel
theorem d7_41 : decode prog_30_method_3_code 41 = .ok (.iconst 1, 1) := by decide +kernel
theorem d7_42 : decode prog_30_method_3_code 42 = .ok (.iadd, 1) := by decide +kernel
theorem d7_43 : decode prog_30_method_3_code 43 = .ok (.putfield 19, 3) := by decide +kernel
theorem d7_46 : decode prog_30_method_3_code 46 = .ok (.baload, 1) := by decide +kernel
theorem d7_47 : decode prog_30_method_3_code 47 = .ok (.sipush 255, 3) := by decide +kernel
theorem d7_50 : decode prog_30_method_3_code 50 = .ok (.iand, 1) := by decide +kernel
theorem d7_51 : decode prog_30_method_3_code 51 = .ok (.istore 4, 2) := by decide +kernel
theorem d7_53 : decode prog_30_method_3_code 53 = .ok (.iload_n 3, 1) := by decide +kernel
theorem d7_54 : decode prog_30_method_3_code 54 = .ok (.bipush 63, 2) := by decide +kernel
theorem d7_56 : decode prog_30_method_3_code 56 = .ok (.if_icmp .ne 12, 3) := by decide +kernel
theorem d7_59 : decode prog_30_method_3_code 59 = .ok (.iload 4, 2) := by decide +kernel
theorem d7_61 : decode prog_30_method_3_code 61 = .ok (.iconst 1, 1) := by decide +kernel
theorem d7_62 : decode prog_30_method_3_code 62 = .ok (.if_icmp .le 6, 3) := by decide +kernel
theorem d7_65 : decode prog_30_method_3_code 65 = .ok (.goto 31, 3) := by decide +kernel
theorem d7_68 : decode prog_30_method_3_code 68 = .ok (.lload_n 1, 1) := by decide +kernel
theorem d7_69 : decode prog_30_method_3_code 69 = .ok (.iload 4, 2) := by decide +kernel
theorem d7_71 : decode prog_30_method_3_code 71 = .ok (.bipush 127, 2) := by decide +kernel
theorem d7_73 : decode prog_30_method_3_code 73 = .ok (.iand, 1) := by decide +kernel
theorem d7_74 : decode prog_30_method_3_code 74 = .ok (.i2l, 1) := by decide +kernel
theorem d7_75 : decode prog_30_method_3_code 75 = .ok (.iload_n 3, 1) := by decide +kernel
theorem d7_76 : decode prog_30_method_3_code 76 = .ok (.lshl, 1) := by decide +kernel
theorem d7_77 : decode prog_30_method_3_code 77 = .ok (.lor, 1) := by decide +kernel
theorem d7_78 : decode prog_30_method_3_code 78 = .ok (.lstore_n 1, 1) := by decide +kernel
theorem d7_79 : decode prog_30_method_3_code 79 = .ok (.iload 4, 2) := by decide +kernel
theorem d7_81 : decode prog_30_method_3_code 81 = .ok (.sipush 128, 3) := by decide +kernel
theorem d7_84 : decode prog_30_method_3_code 84 = .ok (.iand, 1) := by decide +kernel
theorem d7_85 : decode prog_30_method_3_code 85 = .ok (.ifCond .ne 5, 3) := by decide +kernel
theorem d7_88 : decode prog_30_method_3_code 88 = .ok (.lload_n 1, 1) := by decide +kernel
theorem d7_89 : decode prog_30_method_3_code 89 = .ok (.lreturn, 1) := by decide +kernel
theorem d7_90 : decode prog_30_method_3_code 90 = .ok (.iinc 3 7, 3) := by decide +kernel
theorem d7_93 : decode prog_30_method_3_code 93 = .ok (.goto (-89), 3) := by decide +kernel
theorem d7_96 : decode prog_30_method_3_code 96 = .ok (.new 22, 3) := by decide +kernel
theorem d7_99 : decode prog_30_method_3_code 99 = .ok (.dup, 1) := by decide +kernel
theorem d7_100 : decode prog_30_method_3_code 100 = .ok (.ldc 29, 2) := by decide +kernel
theorem d7_102 : decode prog_30_method_3_code 102 = .ok (.invokespecial 26, 3) := by decide +kernel
theorem d7_105 : decode prog_30_method_3_code 105 = .ok (.athrow, 1) := by decide +kernel
theorem pn_7 : plainName "com/example/weftline/weftline/runner/CompactWire$Body" = true := by first | (simp [plainName, overriddenIn]; done) | decide +kernel
theorem ef_7 (m : MethodId) (r0 : Addr) : entryFrame m #[(.ref r0)] 5 = mkF m 0 #[.val (.ref r0), .unset, .unset, .unset, .unset] [] := by first | (simp [entryFrame, mkF, argsToLocals, Value.category]; done) | rfl
def Q7 (Z : State) (r0 rb : Addr) (en : Int32) (f : Nat → Int32) (P j : Nat) (h0 : Heap) (n0 : Nat) (v : Option Value) (h : Heap) (L : List Loc) : Prop := v = some (.long (own_acc f P (j + 1))) ∧ Fr n0 L ∧ n0 ≤ h.size ∧ Keep h0 h [r0] ∧ Exa Z h r0 "com/example/weftline/weftline/runner/CompactWire$Body" ∧ Fld Z h r0 "com/example/weftline/weftline/runner/CompactWire$Body" "bytes" "[B" (.ref rb) ∧ Fld Z h r0 "com/example/weftline/weftline/runner/CompactWire$Body" "end" "I" (.int en) ∧ ∃ w : Int32, w.toInt = ((P + j + 1 : Nat) : Int) ∧ Fld Z h r0 "com/example/weftline/weftline/runner/CompactWire$Body" "position" "I" (.int w)
set_option maxRecDepth 65536 in
set_option maxHeartbeats 40000000 in
theorem loopV {p : Program} {l : Launch} {e : Env} {s : State} {m : MethodId} {args : Array Value} {below : List Frame} {meth : Method} {c : Code} {Z : State} {a0 : Array Value} {h0 : Heap} {n0 : Nat} (r0 rb : Addr) (en : Int32) (nb : Nat) (f : Nat → Int32) (P j : Nat)
    (hx : p.tables.exec = Jvm.exec) (hZ : Z.Warmed39 s.vm) (hw : ∀ d ∈ tables_1, d.before a0 Z = true) (hby : c.code = prog_30_method_3_code) (hml : c.maxLocals = 5) (hown : s.vm.findClass "com/example/weftline/weftline/runner/CompactWire$Body" = some m.cls) (hret : meth.sig.returnType = some .long) (hlk : meth.locks = false) (gn_r0 : n0 ≤ r0) (ne_rb_r0 : rb ≠ r0) (hj : j ≤ 9) (hlen : P + j < nb) (hnb : nb ≤ 900) (hmore : ∀ i, i < j → ¬ (((f (P + i)) &&& (255 : Int32)) &&& (128 : Int32)) = (0 : Int32)) (hlast : (((f (P + j)) &&& (255 : Int32)) &&& (128 : Int32)) = (0 : Int32)) (hnine : j = 9 → ¬ ((1 : Int32) < ((f (P + 9)) &&& (255 : Int32)))) (hend : ∀ i, i ≤ j → ((P + i : Nat) : Int) ≠ en.toInt) :
    ∀ (k i : Nat) (hik : i + k = j) (T : State) (locs : List Loc) (hh : Heap) (w : Int32) (s4 : Slot) (hs4 : One s4) (hwi : w.toInt = ((P + i : Nat) : Int)) (X0 : Stand p l e ({ frames := 0, cells := 0, slots := 0, locals := 0 } : Room) s m args below meth c T locs 0 0) (e0 : T.heap = hh) (N0 : Fr n0 locs) (Z0 : n0 ≤ hh.size) (K_0 : Keep h0 hh [r0]) (E_0 : Exa Z hh r0 "com/example/weftline/weftline/runner/CompactWire$Body") (F_bytes : Fld Z hh r0 "com/example/weftline/weftline/runner/CompactWire$Body" "bytes" "[B" (.ref rb)) (F_end : Fld Z hh r0 "com/example/weftline/weftline/runner/CompactWire$Body" "end" "I" (.int en)) (F_position : Fld Z hh r0 "com/example/weftline/weftline/runner/CompactWire$Body" "position" "I" (.int w)) (A_0 : own_AI Z hh rb .byte nb f),
      own_Ends p e below s ({ frames := 0, cells := 0, slots := 0, locals := 0 } : Room).cells ({ frames := 0, cells := 0, slots := 0, locals := 0 } : Room).slots (Q7 Z r0 rb en f P j h0 n0) (T.setTop (mkF m 4 #[.val (.ref r0), .val (.long (own_acc f P i)), .second, .val (.int (Int32.ofNat (7 * i))), s4] [])) := by
  intro k
  induction k with
  | zero =>
    intro i hik T locs hh w s4 hs4 hwi X0 e0 N0 Z0 K_0 E_0 F_bytes F_end F_position A_0
    have hi9 : i ≤ 9 := by omega
    have hlt : P + i < nb := by omega
    have hne : ¬ w = en := fun q => hend i (by omega) (hwi.symm.trans (congrArg Int32.toInt q))
    have hij : i = j := by omega
    have hbit : (((f (P + i)) &&& (255 : Int32)) &&& (128 : Int32)) = (0 : Int32) := by rw [hij]; exact hlast
    have hn9 : i = 9 → ¬ ((1 : Int32) < ((f (P + i)) &&& (255 : Int32))) := fun q => by rw [q]; exact hnine (by omega)
    show own_Ends p e below s _ _ _ (T.setTop (mkF m 4 #[.val (.ref r0), .val (.long (own_acc f P i)), .second, .val (.int (Int32.ofNat (7 * i))), s4] []))
    refine own_step (fun t k => XS.iloadN X0.here hx rfl (hb hby d7_4) rfl k) ?_
    show own_Ends p e below s _ _ _ (T.setTop (mkF m 5 #[.val (.ref r0), .val (.long (own_acc f P i)), .second, .val (.int (Int32.ofNat (7 * i))), s4] [(.int (Int32.ofNat (7 * i)))]))
    refine own_step (fun t k => XS.bipush X0.here hx rfl (hb hby d7_5) k) ?_
    show own_Ends p e below s _ _ _ (T.setTop (mkF m 7 #[.val (.ref r0), .val (.long (own_acc f P i)), .second, .val (.int (Int32.ofNat (7 * i))), s4] [(.int (64 : Int32)), (.int (Int32.ofNat (7 * i)))]))
    refine own_step (fun t k => XS.icmpNo X0.here hx rfl (hb hby d7_7) rfl (tlt (own_sh64 hi9)).2.1 k) ?_
    show own_Ends p e below s _ _ _ (T.setTop (mkF m 10 #[.val (.ref r0), .val (.long (own_acc f P i)), .second, .val (.int (Int32.ofNat (7 * i))), s4] []))
    refine own_step (fun t k => XS.aloadN X0.here hx rfl (hb hby d7_10) rfl rfl k) ?_
    show own_Ends p e below s _ _ _ (T.setTop (mkF m 11 #[.val (.ref r0), .val (.long (own_acc f P i)), .second, .val (.int (Int32.ofNat (7 * i))), s4] [(.ref r0)]))
    obtain ⟨T1, X1, e1, st1⟩ := getF X0 hx hZ hown (host := "") (Or.inl (hw _ (List.mem_of_getElem? (i := 35) rfl))) Via.refl e0 F_position (g := (mkF m 11 #[.val (.ref r0), .val (.long (own_acc f P i)), .second, .val (.int (Int32.ofNat (7 * i))), s4] [(.ref r0)])) rfl rfl (hb hby d7_11)
    refine own_step st1 ?_
    show own_Ends p e below s _ _ _ (T1.setTop (mkF m 14 #[.val (.ref r0), .val (.long (own_acc f P i)), .second, .val (.int (Int32.ofNat (7 * i))), s4] [(.int w)]))
    refine own_step (fun t k => XS.aloadN X1.here hx rfl (hb hby d7_14) rfl rfl k) ?_
    show own_Ends p e below s _ _ _ (T1.setTop (mkF m 15 #[.val (.ref r0), .val (.long (own_acc f P i)), .second, .val (.int (Int32.ofNat (7 * i))), s4] [(.ref r0), (.int w)]))
    obtain ⟨T2, X2, e2, st2⟩ := getF X1 hx hZ hown (host := "") (Or.inl (hw _ (List.mem_of_getElem? (i := 28) rfl))) Via.refl e1 F_end (g := (mkF m 15 #[.val (.ref r0), .val (.long (own_acc f P i)), .second, .val (.int (Int32.ofNat (7 * i))), s4] [(.ref r0), (.int w)])) rfl rfl (hb hby d7_15)
    refine own_step st2 ?_
    show own_Ends p e below s _ _ _ (T2.setTop (mkF m 18 #[.val (.ref r0), .val (.long (own_acc f P i)), .second, .val (.int (Int32.ofNat (7 * i))), s4] [(.int en), (.int w)]))
    refine own_step (fun t k => XS.icmpYes X2.here hx rfl (pc0 := 18) (pc' := 31) rfl (hb hby d7_18) rfl (feq hne).2 (by decide) (by decide) k) ?_
    show own_Ends p e below s _ _ _ (T2.setTop (mkF m 31 #[.val (.ref r0), .val (.long (own_acc f P i)), .second, .val (.int (Int32.ofNat (7 * i))), s4] []))
    refine own_step (fun t k => XS.aloadN X2.here hx rfl (hb hby d7_31) rfl rfl k) ?_
    show own_Ends p e below s _ _ _ (T2.setTop (mkF m 32 #[.val (.ref r0), .val (.long (own_acc f P i)), .second, .val (.int (Int32.ofNat (7 * i))), s4] [(.ref r0)]))
    obtain ⟨T3, X3, e3, st3⟩ := getF X2 hx hZ hown (host := "") (Or.inl (hw _ (List.mem_of_getElem? (i := 26) rfl))) Via.refl e2 F_bytes (g := (mkF m 32 #[.val (.ref r0), .val (.long (own_acc f P i)), .second, .val (.int (Int32.ofNat (7 * i))), s4] [(.ref r0)])) rfl rfl (hb hby d7_32)
    refine own_step st3 ?_
    show own_Ends p e below s _ _ _ (T3.setTop (mkF m 35 #[.val (.ref r0), .val (.long (own_acc f P i)), .second, .val (.int (Int32.ofNat (7 * i))), s4] [(.ref rb)]))
    refine own_step (fun t k => XS.aloadN X3.here hx rfl (hb hby d7_35) rfl rfl k) ?_
    show own_Ends p e below s _ _ _ (T3.setTop (mkF m 36 #[.val (.ref r0), .val (.long (own_acc f P i)), .second, .val (.int (Int32.ofNat (7 * i))), s4] [(.ref r0), (.ref rb)]))
    refine own_step (fun t k => XS.dup X3.here hx rfl (hb hby d7_36) rfl rfl k) ?_
    show own_Ends p e below s _ _ _ (T3.setTop (mkF m 37 #[.val (.ref r0), .val (.long (own_acc f P i)), .second, .val (.int (Int32.ofNat (7 * i))), s4] [(.ref r0), (.ref r0), (.ref rb)]))
    obtain ⟨T4, X4, e4, st4⟩ := getF X3 hx hZ hown (host := "") (Or.inl (hw _ (List.mem_of_getElem? (i := 35) rfl))) Via.refl e3 F_position (g := (mkF m 37 #[.val (.ref r0), .val (.long (own_acc f P i)), .second, .val (.int (Int32.ofNat (7 * i))), s4] [(.ref r0), (.ref r0), (.ref rb)])) rfl rfl (hb hby d7_37)
    refine own_step st4 ?_
    show own_Ends p e below s _ _ _ (T4.setTop (mkF m 40 #[.val (.ref r0), .val (.long (own_acc f P i)), .second, .val (.int (Int32.ofNat (7 * i))), s4] [(.int w), (.ref r0), (.ref rb)]))
    refine own_step (fun t k => XS.dupX1 X4.here hx rfl (hb hby d7_40) rfl rfl rfl k) ?_
    show own_Ends p e below s _ _ _ (T4.setTop (mkF m 41 #[.val (.ref r0), .val (.long (own_acc f P i)), .second, .val (.int (Int32.ofNat (7 * i))), s4] [(.int w), (.ref r0), (.int w), (.ref rb)]))
    refine own_step (fun t k => XS.iconst X4.here hx rfl (hb hby d7_41) k) ?_
    show own_Ends p e below s _ _ _ (T4.setTop (mkF m 42 #[.val (.ref r0), .val (.long (own_acc f P i)), .second, .val (.int (Int32.ofNat (7 * i))), s4] [(.int (1 : Int32)), (.int w), (.ref r0), (.int w), (.ref rb)]))
    refine own_step (fun t k => XS.iadd X4.here hx rfl (hb hby d7_42) rfl k) ?_
    show own_Ends p e below s _ _ _ (T4.setTop (mkF m 43 #[.val (.ref r0), .val (.long (own_acc f P i)), .second, .val (.int (Int32.ofNat (7 * i))), s4] [(.int (w + (1 : Int32))), (.ref r0), (.int w), (.ref rb)]))
    obtain ⟨T5, h5, X5, e5, W5, st5⟩ := putF X4 hx hZ hown (host := "") (Or.inl (hw _ (List.mem_of_getElem? (i := 35) rfl))) Via.refl e4 F_position E_0 (Or.inl (hw _ (List.mem_of_getElem? (i := 36) rfl))) (hw _ (List.mem_of_getElem? (i := 18) rfl)) (ty := .int) (by decide) rfl rfl (g := (mkF m 43 #[.val (.ref r0), .val (.long (own_acc f P i)), .second, .val (.int (Int32.ofNat (7 * i))), s4] [(.int (w + (1 : Int32))), (.ref r0), (.int w), (.ref rb)])) rfl rfl (hb hby d7_43)
    refine own_step st5 ?_
    have N5 := Fr.snoc X5 N0 gn_r0
    have Z5 : n0 ≤ h5.size := by rw [W5.size]; exact Z0
    have u6 := (K_0.wr W5 (Or.inl (List.mem_of_getElem? (i := 0) rfl)))
    have u7 := (E_0.wr W5)
    have u8 := (F_bytes.other W5 (Or.inr (slot_ne (Or.inr (hw _ (List.mem_of_getElem? (i := 27) rfl))) (Or.inl (hw _ (List.mem_of_getElem? (i := 36) rfl))) (by decide) (t := (.array .byte)) (t' := .int) (by decide) (by decide))))
    have u9 := (F_end.other W5 (Or.inr (slot_ne (Or.inr (hw _ (List.mem_of_getElem? (i := 29) rfl))) (Or.inl (hw _ (List.mem_of_getElem? (i := 36) rfl))) (by decide) (t := .int) (t' := .int) (by decide) (by decide))))
    have u10 := (F_position.same W5)
    have u11 := (A_0.other W5 ne_rb_r0)
    show own_Ends p e below s _ _ _ (T5.setTop (mkF m 46 #[.val (.ref r0), .val (.long (own_acc f P i)), .second, .val (.int (Int32.ofNat (7 * i))), s4] [(.int w), (.ref rb)]))
    refine own_step (fun t k => own_ldB X5 hx hZ e5 u11 (P + i) hwi hlt (g := (mkF m 46 #[.val (.ref r0), .val (.long (own_acc f P i)), .second, .val (.int (Int32.ofNat (7 * i))), s4] [(.int w), (.ref rb)])) rfl rfl (hb hby d7_46) t k) ?_
    show own_Ends p e below s _ _ _ (T5.setTop (mkF m 47 #[.val (.ref r0), .val (.long (own_acc f P i)), .second, .val (.int (Int32.ofNat (7 * i))), s4] [(.int (f (P + i)))]))
    refine own_step (fun t k => XS.sipush X5.here hx rfl (hb hby d7_47) k) ?_
    show own_Ends p e below s _ _ _ (T5.setTop (mkF m 50 #[.val (.ref r0), .val (.long (own_acc f P i)), .second, .val (.int (Int32.ofNat (7 * i))), s4] [(.int (255 : Int32)), (.int (f (P + i)))]))
    refine own_step (fun t k => XS.iand X5.here hx rfl (hb hby d7_50) rfl k) ?_
    show own_Ends p e below s _ _ _ (T5.setTop (mkF m 51 #[.val (.ref r0), .val (.long (own_acc f P i)), .second, .val (.int (Int32.ofNat (7 * i))), s4] [(.int ((f (P + i)) &&& (255 : Int32)))]))
    refine own_step (fun t k => XS.istore X5.here hx rfl (hb hby d7_51) rfl (l' := #[.val (.ref r0), .val (.long (own_acc f P i)), .second, .val (.int (Int32.ofNat (7 * i))), .val (.int ((f (P + i)) &&& (255 : Int32)))]) (osV hs4) k) ?_
    show own_Ends p e below s _ _ _ (T5.setTop (mkF m 53 #[.val (.ref r0), .val (.long (own_acc f P i)), .second, .val (.int (Int32.ofNat (7 * i))), .val (.int ((f (P + i)) &&& (255 : Int32)))] []))
    refine own_step (fun t k => XS.iloadN X5.here hx rfl (hb hby d7_53) rfl k) ?_
    show own_Ends p e below s _ _ _ (T5.setTop (mkF m 54 #[.val (.ref r0), .val (.long (own_acc f P i)), .second, .val (.int (Int32.ofNat (7 * i))), .val (.int ((f (P + i)) &&& (255 : Int32)))] [(.int (Int32.ofNat (7 * i)))]))
    refine own_step (fun t k => XS.bipush X5.here hx rfl (hb hby d7_54) k) ?_
    show own_Ends p e below s _ _ _ (T5.setTop (mkF m 56 #[.val (.ref r0), .val (.long (own_acc f P i)), .second, .val (.int (Int32.ofNat (7 * i))), .val (.int ((f (P + i)) &&& (255 : Int32)))] [(.int (63 : Int32)), (.int (Int32.ofNat (7 * i)))]))
    by_cases hc56_12 : (Int32.ofNat (7 * i)) = (63 : Int32)
    · -- (Int32.ofNat (7 * i)) = (63 : Int32)
      refine own_step (fun t k => XS.icmpNo X5.here hx rfl (hb hby d7_56) rfl (teq hc56_12).2 k) ?_
      show own_Ends p e below s _ _ _ (T5.setTop (mkF m 59 #[.val (.ref r0), .val (.long (own_acc f P i)), .second, .val (.int (Int32.ofNat (7 * i))), .val (.int ((f (P + i)) &&& (255 : Int32)))] []))
      refine own_step (fun t k => XS.iload X5.here hx rfl (hb hby d7_59) rfl k) ?_
      show own_Ends p e below s _ _ _ (T5.setTop (mkF m 61 #[.val (.ref r0), .val (.long (own_acc f P i)), .second, .val (.int (Int32.ofNat (7 * i))), .val (.int ((f (P + i)) &&& (255 : Int32)))] [(.int ((f (P + i)) &&& (255 : Int32)))]))
      refine own_step (fun t k => XS.iconst X5.here hx rfl (hb hby d7_61) k) ?_
      show own_Ends p e below s _ _ _ (T5.setTop (mkF m 62 #[.val (.ref r0), .val (.long (own_acc f P i)), .second, .val (.int (Int32.ofNat (7 * i))), .val (.int ((f (P + i)) &&& (255 : Int32)))] [(.int (1 : Int32)), (.int ((f (P + i)) &&& (255 : Int32)))]))
      refine own_step (fun t k => XS.icmpYes X5.here hx rfl (pc0 := 62) (pc' := 68) rfl (hb hby d7_62) rfl (flt (hn9 (own_is9 hi9 hc56_12))).2.2.2 (by decide) (by decide) k) ?_
      show own_Ends p e below s _ _ _ (T5.setTop (mkF m 68 #[.val (.ref r0), .val (.long (own_acc f P i)), .second, .val (.int (Int32.ofNat (7 * i))), .val (.int ((f (P + i)) &&& (255 : Int32)))] []))
      refine own_step (fun t k => XS.lloadN X5.here hx rfl (hb hby d7_68) rfl k) ?_
      show own_Ends p e below s _ _ _ (T5.setTop (mkF m 69 #[.val (.ref r0), .val (.long (own_acc f P i)), .second, .val (.int (Int32.ofNat (7 * i))), .val (.int ((f (P + i)) &&& (255 : Int32)))] [(.long (own_acc f P i))]))
      refine own_step (fun t k => XS.iload X5.here hx rfl (hb hby d7_69) rfl k) ?_
      show own_Ends p e below s _ _ _ (T5.setTop (mkF m 71 #[.val (.ref r0), .val (.long (own_acc f P i)), .second, .val (.int (Int32.ofNat (7 * i))), .val (.int ((f (P + i)) &&& (255 : Int32)))] [(.int ((f (P + i)) &&& (255 : Int32))), (.long (own_acc f P i))]))
      refine own_step (fun t k => XS.bipush X5.here hx rfl (hb hby d7_71) k) ?_
      show own_Ends p e below s _ _ _ (T5.setTop (mkF m 73 #[.val (.ref r0), .val (.long (own_acc f P i)), .second, .val (.int (Int32.ofNat (7 * i))), .val (.int ((f (P + i)) &&& (255 : Int32)))] [(.int (127 : Int32)), (.int ((f (P + i)) &&& (255 : Int32))), (.long (own_acc f P i))]))
      refine own_step (fun t k => XS.iand X5.here hx rfl (hb hby d7_73) rfl k) ?_
      show own_Ends p e below s _ _ _ (T5.setTop (mkF m 74 #[.val (.ref r0), .val (.long (own_acc f P i)), .second, .val (.int (Int32.ofNat (7 * i))), .val (.int ((f (P + i)) &&& (255 : Int32)))] [(.int (((f (P + i)) &&& (255 : Int32)) &&& (127 : Int32))), (.long (own_acc f P i))]))
      refine own_step (fun t k => XS.i2l X5.here hx rfl (hb hby d7_74) rfl k) ?_
      show own_Ends p e below s _ _ _ (T5.setTop (mkF m 75 #[.val (.ref r0), .val (.long (own_acc f P i)), .second, .val (.int (Int32.ofNat (7 * i))), .val (.int ((f (P + i)) &&& (255 : Int32)))] [(.long ((((f (P + i)) &&& (255 : Int32)) &&& (127 : Int32)).toInt64)), (.long (own_acc f P i))]))
      refine own_step (fun t k => XS.iloadN X5.here hx rfl (hb hby d7_75) rfl k) ?_
      show own_Ends p e below s _ _ _ (T5.setTop (mkF m 76 #[.val (.ref r0), .val (.long (own_acc f P i)), .second, .val (.int (Int32.ofNat (7 * i))), .val (.int ((f (P + i)) &&& (255 : Int32)))] [(.int (Int32.ofNat (7 * i))), (.long ((((f (P + i)) &&& (255 : Int32)) &&& (127 : Int32)).toInt64)), (.long (own_acc f P i))]))
      refine own_step (fun t k => XS.lshl X5.here hx rfl (hb hby d7_76) rfl k) ?_
      show own_Ends p e below s _ _ _ (T5.setTop (mkF m 77 #[.val (.ref r0), .val (.long (own_acc f P i)), .second, .val (.int (Int32.ofNat (7 * i))), .val (.int ((f (P + i)) &&& (255 : Int32)))] [(.long (((((f (P + i)) &&& (255 : Int32)) &&& (127 : Int32)).toInt64) <<< ((Int32.ofNat (7 * i)) &&& 0x3f).toInt64)), (.long (own_acc f P i))]))
      refine own_step (fun t k => XS.lor X5.here hx rfl (hb hby d7_77) rfl k) ?_
      show own_Ends p e below s _ _ _ (T5.setTop (mkF m 78 #[.val (.ref r0), .val (.long (own_acc f P i)), .second, .val (.int (Int32.ofNat (7 * i))), .val (.int ((f (P + i)) &&& (255 : Int32)))] [(.long ((own_acc f P i) ||| (((((f (P + i)) &&& (255 : Int32)) &&& (127 : Int32)).toInt64) <<< ((Int32.ofNat (7 * i)) &&& 0x3f).toInt64)))]))
      refine own_step (fun t k => XS.lstoreN X5.here hx rfl (hb hby d7_78) rfl (l' := #[.val (.ref r0), .val (.long ((own_acc f P i) ||| (((((f (P + i)) &&& (255 : Int32)) &&& (127 : Int32)).toInt64) <<< ((Int32.ofNat (7 * i)) &&& 0x3f).toInt64))), .second, .val (.int (Int32.ofNat (7 * i))), .val (.int ((f (P + i)) &&& (255 : Int32)))]) rfl k) ?_
      show own_Ends p e below s _ _ _ (T5.setTop (mkF m 79 #[.val (.ref r0), .val (.long ((own_acc f P i) ||| (((((f (P + i)) &&& (255 : Int32)) &&& (127 : Int32)).toInt64) <<< ((Int32.ofNat (7 * i)) &&& 0x3f).toInt64))), .second, .val (.int (Int32.ofNat (7 * i))), .val (.int ((f (P + i)) &&& (255 : Int32)))] []))
      refine own_step (fun t k => XS.iload X5.here hx rfl (hb hby d7_79) rfl k) ?_
      show own_Ends p e below s _ _ _ (T5.setTop (mkF m 81 #[.val (.ref r0), .val (.long ((own_acc f P i) ||| (((((f (P + i)) &&& (255 : Int32)) &&& (127 : Int32)).toInt64) <<< ((Int32.ofNat (7 * i)) &&& 0x3f).toInt64))), .second, .val (.int (Int32.ofNat (7 * i))), .val (.int ((f (P + i)) &&& (255 : Int32)))] [(.int ((f (P + i)) &&& (255 : Int32)))]))
      refine own_step (fun t k => XS.sipush X5.here hx rfl (hb hby d7_81) k) ?_
      show own_Ends p e below s _ _ _ (T5.setTop (mkF m 84 #[.val (.ref r0), .val (.long ((own_acc f P i) ||| (((((f (P + i)) &&& (255 : Int32)) &&& (127 : Int32)).toInt64) <<< ((Int32.ofNat (7 * i)) &&& 0x3f).toInt64))), .second, .val (.int (Int32.ofNat (7 * i))), .val (.int ((f (P + i)) &&& (255 : Int32)))] [(.int (128 : Int32)), (.int ((f (P + i)) &&& (255 : Int32)))]))
      refine own_step (fun t k => XS.iand X5.here hx rfl (hb hby d7_84) rfl k) ?_
      show own_Ends p e below s _ _ _ (T5.setTop (mkF m 85 #[.val (.ref r0), .val (.long ((own_acc f P i) ||| (((((f (P + i)) &&& (255 : Int32)) &&& (127 : Int32)).toInt64) <<< ((Int32.ofNat (7 * i)) &&& 0x3f).toInt64))), .second, .val (.int (Int32.ofNat (7 * i))), .val (.int ((f (P + i)) &&& (255 : Int32)))] [(.int (((f (P + i)) &&& (255 : Int32)) &&& (128 : Int32)))]))
      refine own_step (fun t k => XS.ifNo X5.here hx rfl (hb hby d7_85) rfl ((if0 _ _).trans (teq hbit).2) k) ?_
      show own_Ends p e below s _ _ _ (T5.setTop (mkF m 88 #[.val (.ref r0), .val (.long ((own_acc f P i) ||| (((((f (P + i)) &&& (255 : Int32)) &&& (127 : Int32)).toInt64) <<< ((Int32.ofNat (7 * i)) &&& 0x3f).toInt64))), .second, .val (.int (Int32.ofNat (7 * i))), .val (.int ((f (P + i)) &&& (255 : Int32)))] []))
      refine own_step (fun t k => XS.lloadN X5.here hx rfl (hb hby d7_88) rfl k) ?_
      show own_Ends p e below s _ _ _ (T5.setTop (mkF m 89 #[.val (.ref r0), .val (.long ((own_acc f P i) ||| (((((f (P + i)) &&& (255 : Int32)) &&& (127 : Int32)).toInt64) <<< ((Int32.ofNat (7 * i)) &&& 0x3f).toInt64))), .second, .val (.int (Int32.ofNat (7 * i))), .val (.int ((f (P + i)) &&& (255 : Int32)))] [(.long ((own_acc f P i) ||| (((((f (P + i)) &&& (255 : Int32)) &&& (127 : Int32)).toInt64) <<< ((Int32.ofNat (7 * i)) &&& 0x3f).toInt64)))]))
      exact own_retL X5 hx hlk hret (hb hby d7_89) (by rw [e5]; exact ⟨(by rw [← hij]; rfl), N5, Z5, u6, u7, u8, u9, _, (by rw [← hij]; exact own_w1 (n := P + i) hwi (by omega)), u10⟩) (by decide) (by decide)
    · -- not (Int32.ofNat (7 * i)) = (63 : Int32)
      refine own_step (fun t k => XS.icmpYes X5.here hx rfl (pc0 := 56) (pc' := 68) rfl (hb hby d7_56) rfl (feq hc56_12).2 (by decide) (by decide) k) ?_
      show own_Ends p e below s _ _ _ (T5.setTop (mkF m 68 #[.val (.ref r0), .val (.long (own_acc f P i)), .second, .val (.int (Int32.ofNat (7 * i))), .val (.int ((f (P + i)) &&& (255 : Int32)))] []))
      refine own_step (fun t k => XS.lloadN X5.here hx rfl (hb hby d7_68) rfl k) ?_
      show own_Ends p e below s _ _ _ (T5.setTop (mkF m 69 #[.val (.ref r0), .val (.long (own_acc f P i)), .second, .val (.int (Int32.ofNat (7 * i))), .val (.int ((f (P + i)) &&& (255 : Int32)))] [(.long (own_acc f P i))]))
      refine own_step (fun t k => XS.iload X5.here hx rfl (hb hby d7_69) rfl k) ?_
      show own_Ends p e below s _ _ _ (T5.setTop (mkF m 71 #[.val (.ref r0), .val (.long (own_acc f P i)), .second, .val (.int (Int32.ofNat (7 * i))), .val (.int ((f (P + i)) &&& (255 : Int32)))] [(.int ((f (P + i)) &&& (255 : Int32))), (.long (own_acc f P i))]))
      refine own_step (fun t k => XS.bipush X5.here hx rfl (hb hby d7_71) k) ?_
      show own_Ends p e below s _ _ _ (T5.setTop (mkF m 73 #[.val (.ref r0), .val (.long (own_acc f P i)), .second, .val (.int (Int32.ofNat (7 * i))), .val (.int ((f (P + i)) &&& (255 : Int32)))] [(.int (127 : Int32)), (.int ((f (P + i)) &&& (255 : Int32))), (.long (own_acc f P i))]))
      refine own_step (fun t k => XS.iand X5.here hx rfl (hb hby d7_73) rfl k) ?_
      show own_Ends p e below s _ _ _ (T5.setTop (mkF m 74 #[.val (.ref r0), .val (.long (own_acc f P i)), .second, .val (.int (Int32.ofNat (7 * i))), .val (.int ((f (P + i)) &&& (255 : Int32)))] [(.int (((f (P + i)) &&& (255 : Int32)) &&& (127 : Int32))), (.long (own_acc f P i))]))
      refine own_step (fun t k => XS.i2l X5.here hx rfl (hb hby d7_74) rfl k) ?_
      show own_Ends p e below s _ _ _ (T5.setTop (mkF m 75 #[.val (.ref r0), .val (.long (own_acc f P i)), .second, .val (.int (Int32.ofNat (7 * i))), .val (.int ((f (P + i)) &&& (255 : Int32)))] [(.long ((((f (P + i)) &&& (255 : Int32)) &&& (127 : Int32)).toInt64)), (.long (own_acc f P i))]))
      refine own_step (fun t k => XS.iloadN X5.here hx rfl (hb hby d7_75) rfl k) ?_
      show own_Ends p e below s _ _ _ (T5.setTop (mkF m 76 #[.val (.ref r0), .val (.long (own_acc f P i)), .second, .val (.int (Int32.ofNat (7 * i))), .val (.int ((f (P + i)) &&& (255 : Int32)))] [(.int (Int32.ofNat (7 * i))), (.long ((((f (P + i)) &&& (255 : Int32)) &&& (127 : Int32)).toInt64)), (.long (own_acc f P i))]))
      refine own_step (fun t k => XS.lshl X5.here hx rfl (hb hby d7_76) rfl k) ?_
      show own_Ends p e below s _ _ _ (T5.setTop (mkF m 77 #[.val (.ref r0), .val (.long (own_acc f P i)), .second, .val (.int (Int32.ofNat (7 * i))), .val (.int ((f (P + i)) &&& (255 : Int32)))] [(.long (((((f (P + i)) &&& (255 : Int32)) &&& (127 : Int32)).toInt64) <<< ((Int32.ofNat (7 * i)) &&& 0x3f).toInt64)), (.long (own_acc f P i))]))
      refine own_step (fun t k => XS.lor X5.here hx rfl (hb hby d7_77) rfl k) ?_
      show own_Ends p e below s _ _ _ (T5.setTop (mkF m 78 #[.val (.ref r0), .val (.long (own_acc f P i)), .second, .val (.int (Int32.ofNat (7 * i))), .val (.int ((f (P + i)) &&& (255 : Int32)))] [(.long ((own_acc f P i) ||| (((((f (P + i)) &&& (255 : Int32)) &&& (127 : Int32)).toInt64) <<< ((Int32.ofNat (7 * i)) &&& 0x3f).toInt64)))]))
      refine own_step (fun t k => XS.lstoreN X5.here hx rfl (hb hby d7_78) rfl (l' := #[.val (.ref r0), .val (.long ((own_acc f P i) ||| (((((f (P + i)) &&& (255 : Int32)) &&& (127 : Int32)).toInt64) <<< ((Int32.ofNat (7 * i)) &&& 0x3f).toInt64))), .second, .val (.int (Int32.ofNat (7 * i))), .val (.int ((f (P + i)) &&& (255 : Int32)))]) rfl k) ?_
      show own_Ends p e below s _ _ _ (T5.setTop (mkF m 79 #[.val (.ref r0), .val (.long ((own_acc f P i) ||| (((((f (P + i)) &&& (255 : Int32)) &&& (127 : Int32)).toInt64) <<< ((Int32.ofNat (7 * i)) &&& 0x3f).toInt64))), .second, .val (.int (Int32.ofNat (7 * i))), .val (.int ((f (P + i)) &&& (255 : Int32)))] []))
      refine own_step (fun t k => XS.iload X5.here hx rfl (hb hby d7_79) rfl k) ?_
      show own_Ends p e below s _ _ _ (T5.setTop (mkF m 81 #[.val (.ref r0), .val (.long ((own_acc f P i) ||| (((((f (P + i)) &&& (255 : Int32)) &&& (127 : Int32)).toInt64) <<< ((Int32.ofNat (7 * i)) &&& 0x3f).toInt64))), .second, .val (.int (Int32.ofNat (7 * i))), .val (.int ((f (P + i)) &&& (255 : Int32)))] [(.int ((f (P + i)) &&& (255 : Int32)))]))
      refine own_step (fun t k => XS.sipush X5.here hx rfl (hb hby d7_81) k) ?_
      show own_Ends p e below s _ _ _ (T5.setTop (mkF m 84 #[.val (.ref r0), .val (.long ((own_acc f P i) ||| (((((f (P + i)) &&& (255 : Int32)) &&& (127 : Int32)).toInt64) <<< ((Int32.ofNat (7 * i)) &&& 0x3f).toInt64))), .second, .val (.int (Int32.ofNat (7 * i))), .val (.int ((f (P + i)) &&& (255 : Int32)))] [(.int (128 : Int32)), (.int ((f (P + i)) &&& (255 : Int32)))]))
      refine own_step (fun t k => XS.iand X5.here hx rfl (hb hby d7_84) rfl k) ?_
      show own_Ends p e below s _ _ _ (T5.setTop (mkF m 85 #[.val (.ref r0), .val (.long ((own_acc f P i) ||| (((((f (P + i)) &&& (255 : Int32)) &&& (127 : Int32)).toInt64) <<< ((Int32.ofNat (7 * i)) &&& 0x3f).toInt64))), .second, .val (.int (Int32.ofNat (7 * i))), .val (.int ((f (P + i)) &&& (255 : Int32)))] [(.int (((f (P + i)) &&& (255 : Int32)) &&& (128 : Int32)))]))
      refine own_step (fun t k => XS.ifNo X5.here hx rfl (hb hby d7_85) rfl ((if0 _ _).trans (teq hbit).2) k) ?_
      show own_Ends p e below s _ _ _ (T5.setTop (mkF m 88 #[.val (.ref r0), .val (.long ((own_acc f P i) ||| (((((f (P + i)) &&& (255 : Int32)) &&& (127 : Int32)).toInt64) <<< ((Int32.ofNat (7 * i)) &&& 0x3f).toInt64))), .second, .val (.int (Int32.ofNat (7 * i))), .val (.int ((f (P + i)) &&& (255 : Int32)))] []))
      refine own_step (fun t k => XS.lloadN X5.here hx rfl (hb hby d7_88) rfl k) ?_
      show own_Ends p e below s _ _ _ (T5.setTop (mkF m 89 #[.val (.ref r0), .val (.long ((own_acc f P i) ||| (((((f (P + i)) &&& (255 : Int32)) &&& (127 : Int32)).toInt64) <<< ((Int32.ofNat (7 * i)) &&& 0x3f).toInt64))), .second, .val (.int (Int32.ofNat (7 * i))), .val (.int ((f (P + i)) &&& (255 : Int32)))] [(.long ((own_acc f P i) ||| (((((f (P + i)) &&& (255 : Int32)) &&& (127 : Int32)).toInt64) <<< ((Int32.ofNat (7 * i)) &&& 0x3f).toInt64)))]))
      exact own_retL X5 hx hlk hret (hb hby d7_89) (by rw [e5]; exact ⟨(by rw [← hij]; rfl), N5, Z5, u6, u7, u8, u9, _, (by rw [← hij]; exact own_w1 (n := P + i) hwi (by omega)), u10⟩) (by decide) (by decide)
  | succ k ih =>
    intro i hik T locs hh w s4 hs4 hwi X0 e0 N0 Z0 K_0 E_0 F_bytes F_end F_position A_0
    have hi9 : i ≤ 9 := by omega
    have hlt : P + i < nb := by omega
    have hne : ¬ w = en := fun q => hend i (by omega) (hwi.symm.trans (congrArg Int32.toInt q))
    have hbit : ¬ (((f (P + i)) &&& (255 : Int32)) &&& (128 : Int32)) = (0 : Int32) := hmore i (by omega)
    show own_Ends p e below s _ _ _ (T.setTop (mkF m 4 #[.val (.ref r0), .val (.long (own_acc f P i)), .second, .val (.int (Int32.ofNat (7 * i))), s4] []))
    refine own_step (fun t k => XS.iloadN X0.here hx rfl (hb hby d7_4) rfl k) ?_
    show own_Ends p e below s _ _ _ (T.setTop (mkF m 5 #[.val (.ref r0), .val (.long (own_acc f P i)), .second, .val (.int (Int32.ofNat (7 * i))), s4] [(.int (Int32.ofNat (7 * i)))]))
    refine own_step (fun t k => XS.bipush X0.here hx rfl (hb hby d7_5) k) ?_
    show own_Ends p e below s _ _ _ (T.setTop (mkF m 7 #[.val (.ref r0), .val (.long (own_acc f P i)), .second, .val (.int (Int32.ofNat (7 * i))), s4] [(.int (64 : Int32)), (.int (Int32.ofNat (7 * i)))]))
    refine own_step (fun t k => XS.icmpNo X0.here hx rfl (hb hby d7_7) rfl (tlt (own_sh64 hi9)).2.1 k) ?_
    show own_Ends p e below s _ _ _ (T.setTop (mkF m 10 #[.val (.ref r0), .val (.long (own_acc f P i)), .second, .val (.int (Int32.ofNat (7 * i))), s4] []))
    refine own_step (fun t k => XS.aloadN X0.here hx rfl (hb hby d7_10) rfl rfl k) ?_
    show own_Ends p e below s _ _ _ (T.setTop (mkF m 11 #[.val (.ref r0), .val (.long (own_acc f P i)), .second, .val (.int (Int32.ofNat (7 * i))), s4] [(.ref r0)]))
    obtain ⟨T1, X1, e1, st1⟩ := getF X0 hx hZ hown (host := "") (Or.inl (hw _ (List.mem_of_getElem? (i := 35) rfl))) Via.refl e0 F_position (g := (mkF m 11 #[.val (.ref r0), .val (.long (own_acc f P i)), .second, .val (.int (Int32.ofNat (7 * i))), s4] [(.ref r0)])) rfl rfl (hb hby d7_11)
    refine own_step st1 ?_
    show own_Ends p e below s _ _ _ (T1.setTop (mkF m 14 #[.val (.ref r0), .val (.long (own_acc f P i)), .second, .val (.int (Int32.ofNat (7 * i))), s4] [(.int w)]))
    refine own_step (fun t k => XS.aloadN X1.here hx rfl (hb hby d7_14) rfl rfl k) ?_
    show own_Ends p e below s _ _ _ (T1.setTop (mkF m 15 #[.val (.ref r0), .val (.long (own_acc f P i)), .second, .val (.int (Int32.ofNat (7 * i))), s4] [(.ref r0), (.int w)]))
    obtain ⟨T2, X2, e2, st2⟩ := getF X1 hx hZ hown (host := "") (Or.inl (hw _ (List.mem_of_getElem? (i := 28) rfl))) Via.refl e1 F_end (g := (mkF m 15 #[.val (.ref r0), .val (.long (own_acc f P i)), .second, .val (.int (Int32.ofNat (7 * i))), s4] [(.ref r0), (.int w)])) rfl rfl (hb hby d7_15)
    refine own_step st2 ?_
    show own_Ends p e below s _ _ _ (T2.setTop (mkF m 18 #[.val (.ref r0), .val (.long (own_acc f P i)), .second, .val (.int (Int32.ofNat (7 * i))), s4] [(.int en), (.int w)]))
    refine own_step (fun t k => XS.icmpYes X2.here hx rfl (pc0 := 18) (pc' := 31) rfl (hb hby d7_18) rfl (feq hne).2 (by decide) (by decide) k) ?_
    show own_Ends p e below s _ _ _ (T2.setTop (mkF m 31 #[.val (.ref r0), .val (.long (own_acc f P i)), .second, .val (.int (Int32.ofNat (7 * i))), s4] []))
    refine own_step (fun t k => XS.aloadN X2.here hx rfl (hb hby d7_31) rfl rfl k) ?_
    show own_Ends p e below s _ _ _ (T2.setTop (mkF m 32 #[.val (.ref r0), .val (.long (own_acc f P i)), .second, .val (.int (Int32.ofNat (7 * i))), s4] [(.ref r0)]))
    obtain ⟨T3, X3, e3, st3⟩ := getF X2 hx hZ hown (host := "") (Or.inl (hw _ (List.mem_of_getElem? (i := 26) rfl))) Via.refl e2 F_bytes (g := (mkF m 32 #[.val (.ref r0), .val (.long (own_acc f P i)), .second, .val (.int (Int32.ofNat (7 * i))), s4] [(.ref r0)])) rfl rfl (hb hby d7_32)
    refine own_step st3 ?_
    show own_Ends p e below s _ _ _ (T3.setTop (mkF m 35 #[.val (.ref r0), .val (.long (own_acc f P i)), .second, .val (.int (Int32.ofNat (7 * i))), s4] [(.ref rb)]))
    refine own_step (fun t k => XS.aloadN X3.here hx rfl (hb hby d7_35) rfl rfl k) ?_
    show own_Ends p e below s _ _ _ (T3.setTop (mkF m 36 #[.val (.ref r0), .val (.long (own_acc f P i)), .second, .val (.int (Int32.ofNat (7 * i))), s4] [(.ref r0), (.ref rb)]))
    refine own_step (fun t k => XS.dup X3.here hx rfl (hb hby d7_36) rfl rfl k) ?_
    show own_Ends p e below s _ _ _ (T3.setTop (mkF m 37 #[.val (.ref r0), .val (.long (own_acc f P i)), .second, .val (.int (Int32.ofNat (7 * i))), s4] [(.ref r0), (.ref r0), (.ref rb)]))
    obtain ⟨T4, X4, e4, st4⟩ := getF X3 hx hZ hown (host := "") (Or.inl (hw _ (List.mem_of_getElem? (i := 35) rfl))) Via.refl e3 F_position (g := (mkF m 37 #[.val (.ref r0), .val (.long (own_acc f P i)), .second, .val (.int (Int32.ofNat (7 * i))), s4] [(.ref r0), (.ref r0), (.ref rb)])) rfl rfl (hb hby d7_37)
    refine own_step st4 ?_
    show own_Ends p e below s _ _ _ (T4.setTop (mkF m 40 #[.val (.ref r0), .val (.long (own_acc f P i)), .second, .val (.int (Int32.ofNat (7 * i))), s4] [(.int w), (.ref r0), (.ref rb)]))
    refine own_step (fun t k => XS.dupX1 X4.here hx rfl (hb hby d7_40) rfl rfl rfl k) ?_
    show own_Ends p e below s _ _ _ (T4.setTop (mkF m 41 #[.val (.ref r0), .val (.long (own_acc f P i)), .second, .val (.int (Int32.ofNat (7 * i))), s4] [(.int w), (.ref r0), (.int w), (.ref rb)]))
    refine own_step (fun t k => XS.iconst X4.here hx rfl (hb hby d7_41) k) ?_
    show own_Ends p e below s _ _ _ (T4.setTop (mkF m 42 #[.val (.ref r0), .val (.long (own_acc f P i)), .second, .val (.int (Int32.ofNat (7 * i))), s4] [(.int (1 : Int32)), (.int w), (.ref r0), (.int w), (.ref rb)]))
    refine own_step (fun t k => XS.iadd X4.here hx rfl (hb hby d7_42) rfl k) ?_
    show own_Ends p e below s _ _ _ (T4.setTop (mkF m 43 #[.val (.ref r0), .val (.long (own_acc f P i)), .second, .val (.int (Int32.ofNat (7 * i))), s4] [(.int (w + (1 : Int32))), (.ref r0), (.int w), (.ref rb)]))
    obtain ⟨T5, h5, X5, e5, W5, st5⟩ := putF X4 hx hZ hown (host := "") (Or.inl (hw _ (List.mem_of_getElem? (i := 35) rfl))) Via.refl e4 F_position E_0 (Or.inl (hw _ (List.mem_of_getElem? (i := 36) rfl))) (hw _ (List.mem_of_getElem? (i := 18) rfl)) (ty := .int) (by decide) rfl rfl (g := (mkF m 43 #[.val (.ref r0), .val (.long (own_acc f P i)), .second, .val (.int (Int32.ofNat (7 * i))), s4] [(.int (w + (1 : Int32))), (.ref r0), (.int w), (.ref rb)])) rfl rfl (hb hby d7_43)
    refine own_step st5 ?_
    have N5 := Fr.snoc X5 N0 gn_r0
    have Z5 : n0 ≤ h5.size := by rw [W5.size]; exact Z0
    have u6 := (K_0.wr W5 (Or.inl (List.mem_of_getElem? (i := 0) rfl)))
    have u7 := (E_0.wr W5)
    have u8 := (F_bytes.other W5 (Or.inr (slot_ne (Or.inr (hw _ (List.mem_of_getElem? (i := 27) rfl))) (Or.inl (hw _ (List.mem_of_getElem? (i := 36) rfl))) (by decide) (t := (.array .byte)) (t' := .int) (by decide) (by decide))))
    have u9 := (F_end.other W5 (Or.inr (slot_ne (Or.inr (hw _ (List.mem_of_getElem? (i := 29) rfl))) (Or.inl (hw _ (List.mem_of_getElem? (i := 36) rfl))) (by decide) (t := .int) (t' := .int) (by decide) (by decide))))
    have u10 := (F_position.same W5)
    have u11 := (A_0.other W5 ne_rb_r0)
    show own_Ends p e below s _ _ _ (T5.setTop (mkF m 46 #[.val (.ref r0), .val (.long (own_acc f P i)), .second, .val (.int (Int32.ofNat (7 * i))), s4] [(.int w), (.ref rb)]))
    refine own_step (fun t k => own_ldB X5 hx hZ e5 u11 (P + i) hwi hlt (g := (mkF m 46 #[.val (.ref r0), .val (.long (own_acc f P i)), .second, .val (.int (Int32.ofNat (7 * i))), s4] [(.int w), (.ref rb)])) rfl rfl (hb hby d7_46) t k) ?_
    show own_Ends p e below s _ _ _ (T5.setTop (mkF m 47 #[.val (.ref r0), .val (.long (own_acc f P i)), .second, .val (.int (Int32.ofNat (7 * i))), s4] [(.int (f (P + i)))]))
    refine own_step (fun t k => XS.sipush X5.here hx rfl (hb hby d7_47) k) ?_
    show own_Ends p e below s _ _ _ (T5.setTop (mkF m 50 #[.val (.ref r0), .val (.long (own_acc f P i)), .second, .val (.int (Int32.ofNat (7 * i))), s4] [(.int (255 : Int32)), (.int (f (P + i)))]))
    refine own_step (fun t k => XS.iand X5.here hx rfl (hb hby d7_50) rfl k) ?_
    show own_Ends p e below s _ _ _ (T5.setTop (mkF m 51 #[.val (.ref r0), .val (.long (own_acc f P i)), .second, .val (.int (Int32.ofNat (7 * i))), s4] [(.int ((f (P + i)) &&& (255 : Int32)))]))
    refine own_step (fun t k => XS.istore X5.here hx rfl (hb hby d7_51) rfl (l' := #[.val (.ref r0), .val (.long (own_acc f P i)), .second, .val (.int (Int32.ofNat (7 * i))), .val (.int ((f (P + i)) &&& (255 : Int32)))]) (osV hs4) k) ?_
    show own_Ends p e below s _ _ _ (T5.setTop (mkF m 53 #[.val (.ref r0), .val (.long (own_acc f P i)), .second, .val (.int (Int32.ofNat (7 * i))), .val (.int ((f (P + i)) &&& (255 : Int32)))] []))
    refine own_step (fun t k => XS.iloadN X5.here hx rfl (hb hby d7_53) rfl k) ?_
    show own_Ends p e below s _ _ _ (T5.setTop (mkF m 54 #[.val (.ref r0), .val (.long (own_acc f P i)), .second, .val (.int (Int32.ofNat (7 * i))), .val (.int ((f (P + i)) &&& (255 : Int32)))] [(.int (Int32.ofNat (7 * i)))]))
    refine own_step (fun t k => XS.bipush X5.here hx rfl (hb hby d7_54) k) ?_
    show own_Ends p e below s _ _ _ (T5.setTop (mkF m 56 #[.val (.ref r0), .val (.long (own_acc f P i)), .second, .val (.int (Int32.ofNat (7 * i))), .val (.int ((f (P + i)) &&& (255 : Int32)))] [(.int (63 : Int32)), (.int (Int32.ofNat (7 * i)))]))
    refine own_step (fun t k => XS.icmpYes X5.here hx rfl (pc0 := 56) (pc' := 68) rfl (hb hby d7_56) rfl (feq (fun q => absurd (own_is9 hi9 q) (by omega))).2 (by decide) (by decide) k) ?_
    show own_Ends p e below s _ _ _ (T5.setTop (mkF m 68 #[.val (.ref r0), .val (.long (own_acc f P i)), .second, .val (.int (Int32.ofNat (7 * i))), .val (.int ((f (P + i)) &&& (255 : Int32)))] []))
    refine own_step (fun t k => XS.lloadN X5.here hx rfl (hb hby d7_68) rfl k) ?_
    show own_Ends p e below s _ _ _ (T5.setTop (mkF m 69 #[.val (.ref r0), .val (.long (own_acc f P i)), .second, .val (.int (Int32.ofNat (7 * i))), .val (.int ((f (P + i)) &&& (255 : Int32)))] [(.long (own_acc f P i))]))
    refine own_step (fun t k => XS.iload X5.here hx rfl (hb hby d7_69) rfl k) ?_
    show own_Ends p e below s _ _ _ (T5.setTop (mkF m 71 #[.val (.ref r0), .val (.long (own_acc f P i)), .second, .val (.int (Int32.ofNat (7 * i))), .val (.int ((f (P + i)) &&& (255 : Int32)))] [(.int ((f (P + i)) &&& (255 : Int32))), (.long (own_acc f P i))]))
    refine own_step (fun t k => XS.bipush X5.here hx rfl (hb hby d7_71) k) ?_
    show own_Ends p e below s _ _ _ (T5.setTop (mkF m 73 #[.val (.ref r0), .val (.long (own_acc f P i)), .second, .val (.int (Int32.ofNat (7 * i))), .val (.int ((f (P + i)) &&& (255 : Int32)))] [(.int (127 : Int32)), (.int ((f (P + i)) &&& (255 : Int32))), (.long (own_acc f P i))]))
    refine own_step (fun t k => XS.iand X5.here hx rfl (hb hby d7_73) rfl k) ?_
    show own_Ends p e below s _ _ _ (T5.setTop (mkF m 74 #[.val (.ref r0), .val (.long (own_acc f P i)), .second, .val (.int (Int32.ofNat (7 * i))), .val (.int ((f (P + i)) &&& (255 : Int32)))] [(.int (((f (P + i)) &&& (255 : Int32)) &&& (127 : Int32))), (.long (own_acc f P i))]))
    refine own_step (fun t k => XS.i2l X5.here hx rfl (hb hby d7_74) rfl k) ?_
    show own_Ends p e below s _ _ _ (T5.setTop (mkF m 75 #[.val (.ref r0), .val (.long (own_acc f P i)), .second, .val (.int (Int32.ofNat (7 * i))), .val (.int ((f (P + i)) &&& (255 : Int32)))] [(.long ((((f (P + i)) &&& (255 : Int32)) &&& (127 : Int32)).toInt64)), (.long (own_acc f P i))]))
    refine own_step (fun t k => XS.iloadN X5.here hx rfl (hb hby d7_75) rfl k) ?_
    show own_Ends p e below s _ _ _ (T5.setTop (mkF m 76 #[.val (.ref r0), .val (.long (own_acc f P i)), .second, .val (.int (Int32.ofNat (7 * i))), .val (.int ((f (P + i)) &&& (255 : Int32)))] [(.int (Int32.ofNat (7 * i))), (.long ((((f (P + i)) &&& (255 : Int32)) &&& (127 : Int32)).toInt64)), (.long (own_acc f P i))]))
    refine own_step (fun t k => XS.lshl X5.here hx rfl (hb hby d7_76) rfl k) ?_
    show own_Ends p e below s _ _ _ (T5.setTop (mkF m 77 #[.val (.ref r0), .val (.long (own_acc f P i)), .second, .val (.int (Int32.ofNat (7 * i))), .val (.int ((f (P + i)) &&& (255 : Int32)))] [(.long (((((f (P + i)) &&& (255 : Int32)) &&& (127 : Int32)).toInt64) <<< ((Int32.ofNat (7 * i)) &&& 0x3f).toInt64)), (.long (own_acc f P i))]))
    refine own_step (fun t k => XS.lor X5.here hx rfl (hb hby d7_77) rfl k) ?_
    show own_Ends p e below s _ _ _ (T5.setTop (mkF m 78 #[.val (.ref r0), .val (.long (own_acc f P i)), .second, .val (.int (Int32.ofNat (7 * i))), .val (.int ((f (P + i)) &&& (255 : Int32)))] [(.long ((own_acc f P i) ||| (((((f (P + i)) &&& (255 : Int32)) &&& (127 : Int32)).toInt64) <<< ((Int32.ofNat (7 * i)) &&& 0x3f).toInt64)))]))
    refine own_step (fun t k => XS.lstoreN X5.here hx rfl (hb hby d7_78) rfl (l' := #[.val (.ref r0), .val (.long ((own_acc f P i) ||| (((((f (P + i)) &&& (255 : Int32)) &&& (127 : Int32)).toInt64) <<< ((Int32.ofNat (7 * i)) &&& 0x3f).toInt64))), .second, .val (.int (Int32.ofNat (7 * i))), .val (.int ((f (P + i)) &&& (255 : Int32)))]) rfl k) ?_
    show own_Ends p e below s _ _ _ (T5.setTop (mkF m 79 #[.val (.ref r0), .val (.long ((own_acc f P i) ||| (((((f (P + i)) &&& (255 : Int32)) &&& (127 : Int32)).toInt64) <<< ((Int32.ofNat (7 * i)) &&& 0x3f).toInt64))), .second, .val (.int (Int32.ofNat (7 * i))), .val (.int ((f (P + i)) &&& (255 : Int32)))] []))
    refine own_step (fun t k => XS.iload X5.here hx rfl (hb hby d7_79) rfl k) ?_
    show own_Ends p e below s _ _ _ (T5.setTop (mkF m 81 #[.val (.ref r0), .val (.long ((own_acc f P i) ||| (((((f (P + i)) &&& (255 : Int32)) &&& (127 : Int32)).toInt64) <<< ((Int32.ofNat (7 * i)) &&& 0x3f).toInt64))), .second, .val (.int (Int32.ofNat (7 * i))), .val (.int ((f (P + i)) &&& (255 : Int32)))] [(.int ((f (P + i)) &&& (255 : Int32)))]))
    refine own_step (fun t k => XS.sipush X5.here hx rfl (hb hby d7_81) k) ?_
    show own_Ends p e below s _ _ _ (T5.setTop (mkF m 84 #[.val (.ref r0), .val (.long ((own_acc f P i) ||| (((((f (P + i)) &&& (255 : Int32)) &&& (127 : Int32)).toInt64) <<< ((Int32.ofNat (7 * i)) &&& 0x3f).toInt64))), .second, .val (.int (Int32.ofNat (7 * i))), .val (.int ((f (P + i)) &&& (255 : Int32)))] [(.int (128 : Int32)), (.int ((f (P + i)) &&& (255 : Int32)))]))
    refine own_step (fun t k => XS.iand X5.here hx rfl (hb hby d7_84) rfl k) ?_
    show own_Ends p e below s _ _ _ (T5.setTop (mkF m 85 #[.val (.ref r0), .val (.long ((own_acc f P i) ||| (((((f (P + i)) &&& (255 : Int32)) &&& (127 : Int32)).toInt64) <<< ((Int32.ofNat (7 * i)) &&& 0x3f).toInt64))), .second, .val (.int (Int32.ofNat (7 * i))), .val (.int ((f (P + i)) &&& (255 : Int32)))] [(.int (((f (P + i)) &&& (255 : Int32)) &&& (128 : Int32)))]))
    refine own_step (fun t k => XS.ifYes X5.here hx rfl (pc0 := 85) (pc' := 90) rfl (hb hby d7_85) rfl ((if0 _ _).trans (feq hbit).2) (by decide) (by decide) k) ?_
    show own_Ends p e below s _ _ _ (T5.setTop (mkF m 90 #[.val (.ref r0), .val (.long ((own_acc f P i) ||| (((((f (P + i)) &&& (255 : Int32)) &&& (127 : Int32)).toInt64) <<< ((Int32.ofNat (7 * i)) &&& 0x3f).toInt64))), .second, .val (.int (Int32.ofNat (7 * i))), .val (.int ((f (P + i)) &&& (255 : Int32)))] []))
    refine own_step (fun t k => XS.iinc X5.here hx rfl (hb hby d7_90) rfl (l' := #[.val (.ref r0), .val (.long ((own_acc f P i) ||| (((((f (P + i)) &&& (255 : Int32)) &&& (127 : Int32)).toInt64) <<< ((Int32.ofNat (7 * i)) &&& 0x3f).toInt64))), .second, .val (.int ((Int32.ofNat (7 * i)) + (7 : Int32))), .val (.int ((f (P + i)) &&& (255 : Int32)))]) rfl k) ?_
    show own_Ends p e below s _ _ _ (T5.setTop (mkF m 93 #[.val (.ref r0), .val (.long ((own_acc f P i) ||| (((((f (P + i)) &&& (255 : Int32)) &&& (127 : Int32)).toInt64) <<< ((Int32.ofNat (7 * i)) &&& 0x3f).toInt64))), .second, .val (.int ((Int32.ofNat (7 * i)) + (7 : Int32))), .val (.int ((f (P + i)) &&& (255 : Int32)))] []))
    refine own_step (fun t k => XS.goto X5.here hx rfl (pc0 := 93) (pc' := 4) rfl (hb hby d7_93) (by decide) (by decide) k) ?_
    show own_Ends p e below s _ _ _ (T5.setTop (mkF m 4 #[.val (.ref r0), .val (.long ((own_acc f P i) ||| (((((f (P + i)) &&& (255 : Int32)) &&& (127 : Int32)).toInt64) <<< ((Int32.ofNat (7 * i)) &&& 0x3f).toInt64))), .second, .val (.int ((Int32.ofNat (7 * i)) + (7 : Int32))), .val (.int ((f (P + i)) &&& (255 : Int32)))] []))
    rw [own_shS hi9]
    exact ih (i + 1) (by omega) _ _ _ _ _ (One.val rfl) (own_w1 (n := P + i) hwi (by omega)) X5 e5 N5 Z5 u6 u7 u8 u9 u10 u11
set_option maxRecDepth 65536 in
set_option maxHeartbeats 40000000 in
theorem rm7 (l : Launch) (Z : State) (a0 : Array Value) (hw : ∀ d ∈ tables_1, d.before a0 Z = true) (ws : List Jvm.Cond) (r0 : Addr) (rb : Addr) (en ps : Int32) (nb : Nat) (f : Nat → Int32) (P j : Nat) (h0 : Heap) (n0 : Nat) (Z0 : n0 ≤ h0.size) (gn_r0 : n0 ≤ r0) (E_0 : Exa Z h0 r0 "com/example/weftline/weftline/runner/CompactWire$Body") (F_bytes : Fld Z h0 r0 "com/example/weftline/weftline/runner/CompactWire$Body" "bytes" "[B" (.ref rb)) (F_end : Fld Z h0 r0 "com/example/weftline/weftline/runner/CompactWire$Body" "end" "I" (.int en)) (F_position : Fld Z h0 r0 "com/example/weftline/weftline/runner/CompactWire$Body" "position" "I" (.int ps)) (A_0 : own_AI Z h0 rb .byte nb f) (ne_rb_r0 : rb ≠ r0) (hP : ps.toInt = ((P + 0 : Nat) : Int)) (hj : j ≤ 9) (hlen : P + j < nb) (hnb : nb ≤ 900) (hmore : ∀ i, i < j → ¬ (((f (P + i)) &&& (255 : Int32)) &&& (128 : Int32)) = (0 : Int32)) (hlast : (((f (P + j)) &&& (255 : Int32)) &&& (128 : Int32)) = (0 : Int32)) (hnine : j = 9 → ¬ ((1 : Int32) < ((f (P + 9)) &&& (255 : Int32)))) (hend : ∀ i, i ≤ j → ((P + i : Nat) : Int) ≠ en.toInt) :
    MetFree l (⟨"com/example/weftline/weftline/runner/CompactWire$Body", "varint", "()J"⟩ : MethodName) (head1 (Jvm.Cond.code (⟨"com/example/weftline/weftline/runner/CompactWire$Body", "varint", "()J"⟩ : MethodName) prog_30_method_3_code 5 (some .long) :: ws) ({ frames := 0, cells := 0, slots := 0, locals := 0 } : Room)) (fun a U => a = #[(.ref r0)] ∧ Z.Warmed39 U.vm ∧ U.heap = h0) (fun _ _ _ _ _ => True) (fun _ U o U' => ∃ v L, o = .returned v ∧ (Q7 Z r0 rb en f P j h0 n0) v U'.heap L ∧ FrameEnd U o U' L ({ frames := 0, cells := 0, slots := 0, locals := 0 } : Room).cells ({ frames := 0, cells := 0, slots := 0, locals := 0 } : Room).slots) := by
  refine MetFree.of_bodySF (plainFor_of_name pn_7) hisR ?_
  intro p e s m args below meth c s₁ Bd hml0 hP hK
  obtain ⟨rfl, hZ, hh⟩ := hP
  have hx := Bd.exec
  have hby := Bd.bytes
  have hret := Bd.returns
  have hlk := BodyLoose.notSynchronized Bd
  have hml : c.maxLocals = 5 := hml0
  have hown : s.vm.findClass "com/example/weftline/weftline/runner/CompactWire$Body" = some m.cls := findClass_of_methodNamed Bd.named
  have hnm := (name_of_methodNamed Bd.named Bd.method).1
  have X0 : Stand p l e ({ frames := 0, cells := 0, slots := 0, locals := 0 } : Room) s m #[(.ref r0)] below meth c s₁ [] 0 0 := Stand.of_body Bd
  have e0 : s₁.heap = h0 := by rw [← hh, Bd.state]; rfl
  have N0 := Fr.nil n0
  show own_Ends p e below s ({ frames := 0, cells := 0, slots := 0, locals := 0 } : Room).cells ({ frames := 0, cells := 0, slots := 0, locals := 0 } : Room).slots (Q7 Z r0 rb en f P j h0 n0) (s₁.setTop (entryFrame m #[(.ref r0)] 5))
  refine own_cast (ef_7 m r0) ?_
  show own_Ends p e below s _ _ _ (s₁.setTop (mkF m 0 #[.val (.ref r0), .unset, .unset, .unset, .unset] []))
  refine own_step (fun t k => XS.lconst X0.here hx rfl (hb hby d7_0) k) ?_
  show own_Ends p e below s _ _ _ (s₁.setTop (mkF m 1 #[.val (.ref r0), .unset, .unset, .unset, .unset] [(.long (0 : Int64))]))
  refine own_step (fun t k => XS.lstoreN X0.here hx rfl (hb hby d7_1) rfl (l' := #[.val (.ref r0), .val (.long (0 : Int64)), .second, .unset, .unset]) rfl k) ?_
  show own_Ends p e below s _ _ _ (s₁.setTop (mkF m 2 #[.val (.ref r0), .val (.long (0 : Int64)), .second, .unset, .unset] []))
  refine own_step (fun t k => XS.iconst X0.here hx rfl (hb hby d7_2) k) ?_
  show own_Ends p e below s _ _ _ (s₁.setTop (mkF m 3 #[.val (.ref r0), .val (.long (0 : Int64)), .second, .unset, .unset] [(.int (0 : Int32))]))
  refine own_step (fun t k => XS.istoreN X0.here hx rfl (hb hby d7_3) rfl (l' := #[.val (.ref r0), .val (.long (0 : Int64)), .second, .val (.int (0 : Int32)), .unset]) rfl k) ?_
  show own_Ends p e below s _ _ _ (s₁.setTop (mkF m 4 #[.val (.ref r0), .val (.long (0 : Int64)), .second, .val (.int (0 : Int32)), .unset] []))
  exact loopV r0 rb en nb f P j hx hZ hw hby hml hown hret hlk gn_r0 ne_rb_r0 hj hlen hnb hmore hlast hnine hend j 0 (by omega) _ _ _ ps .unset One.u hP X0 e0 N0 Z0 (Keep.refl h0 [r0]) E_0 F_bytes F_end F_position A_0
theorem d2_0 : decode method_2_code 0 = .ok (.lload_n 0, 1) := by decide +kernel
theorem d2_1 : decode method_2_code 1 = .ok (.iload_n 2, 1) := by decide +kernel
theorem d2_2 : decode method_2_code 2 = .ok (.lushr, 1) := by decide +kernel
theorem d2_3 : decode method_2_code 3 = .ok (.lconst 0, 1) := by decide +kernel
theorem d2_4 : decode method_2_code 4 = .ok (.lcmp, 1) := by decide +kernel
theorem d2_5 : decode method_2_code 5 = .ok (.ifCond .eq 7, 3) := by decide +kernel
theorem d2_8 : decode method_2_code 8 = .ok (.iconst 1, 1) := by decide +kernel
theorem d2_9 : decode method_2_code 9 = .ok (.goto 4, 3) := by decide +kernel
theorem d2_12 : decode method_2_code 12 = .ok (.iconst 0, 1) := by decide +kernel
theorem d2_13 : decode method_2_code 13 = .ok (.ireturn, 1) := by decide +kernel
theorem pn_2 : plainName "com/example/weftline/weftline/runner/BodyVarintPinLaw" = true := by first | (simp [plainName, overriddenIn]; done) | decide +kernel
theorem ef_2 (m : MethodId) (q0 : Int64) (p1 : Int32) : entryFrame m #[(.long q0), (.int p1)] 3 = mkF m 0 #[.val (.long q0), .second, .val (.int p1)] [] := by first | (simp [entryFrame, mkF, argsToLocals, Value.category]; done) | rfl
def f2_13 (q0 : Int64) (p1 : Int32) : Int32 := (0 : Int32)
def f2_13b (q0 : Int64) (p1 : Int32) : Int32 := (1 : Int32)
def f2_0 (q0 : Int64) (p1 : Int32) : Int32 := (if ((q0.toUInt64 >>> (p1 &&& 0x3f).toInt64.toUInt64).toInt64) = (0 : Int64) then f2_13 q0 p1 else f2_13b q0 p1)
def Q2 (Z : State) (q0 : Int64) (p1 : Int32) (h0 : Heap) (n0 : Nat) (v : Option Value) (h : Heap) (L : List Loc) : Prop := v = some (.int (f2_0 q0 p1)) ∧ Fr n0 L ∧ h = h0
set_option maxRecDepth 65536 in
set_option maxHeartbeats 40000000 in
theorem rm2 (l : Launch) (Z : State) (a0 : Array Value) (hw : ∀ d ∈ tables_1, d.before a0 Z = true) (ws : List Jvm.Cond) (q0 : Int64) (p1 : Int32) (h0 : Heap) (n0 : Nat) :
    MetFree l (⟨"com/example/weftline/weftline/runner/BodyVarintPinLaw", "nz", "(JI)I"⟩ : MethodName) (head1 (Jvm.Cond.code (⟨"com/example/weftline/weftline/runner/BodyVarintPinLaw", "nz", "(JI)I"⟩ : MethodName) method_2_code 3 (some .int) :: ws) ({ frames := 0, cells := 0, slots := 0, locals := 0 } : Room)) (fun a U => a = #[(.long q0), (.int p1)] ∧ Z.Warmed39 U.vm ∧ U.heap = h0) (fun _ _ _ _ _ => True) (fun _ U o U' => ∃ v L, o = .returned v ∧ (Q2 Z q0 p1 h0 n0) v U'.heap L ∧ FrameEnd U o U' L ({ frames := 0, cells := 0, slots := 0, locals := 0 } : Room).cells ({ frames := 0, cells := 0, slots := 0, locals := 0 } : Room).slots) := by
  refine MetFree.of_bodySF (plainFor_of_name pn_2) hisR ?_
  intro p e s m args below meth c s₁ Bd hml0 hP hK
  obtain ⟨rfl, hZ, hh⟩ := hP
  have hx := Bd.exec
  have hby := Bd.bytes
  have hret := Bd.returns
  have hlk := BodyLoose.notSynchronized Bd
  have hml : c.maxLocals = 3 := hml0
  have hown : s.vm.findClass "com/example/weftline/weftline/runner/BodyVarintPinLaw" = some m.cls := findClass_of_methodNamed Bd.named
  have hnm := (name_of_methodNamed Bd.named Bd.method).1
  have X0 : Stand p l e ({ frames := 0, cells := 0, slots := 0, locals := 0 } : Room) s m #[(.long q0), (.int p1)] below meth c s₁ [] 0 0 := Stand.of_body Bd
  have e0 : s₁.heap = h0 := by rw [← hh, Bd.state]; rfl
  have N0 := Fr.nil n0
  show own_Ends p e below s ({ frames := 0, cells := 0, slots := 0, locals := 0 } : Room).cells ({ frames := 0, cells := 0, slots := 0, locals := 0 } : Room).slots (Q2 Z q0 p1 h0 n0) (s₁.setTop (entryFrame m #[(.long q0), (.int p1)] 3))
  refine own_cast (ef_2 m q0 p1) ?_
  have B2_13 (hF : f2_0 q0 p1 = f2_13 q0 p1) : own_Ends p e below s ({ frames := 0, cells := 0, slots := 0, locals := 0 } : Room).cells ({ frames := 0, cells := 0, slots := 0, locals := 0 } : Room).slots (Q2 Z q0 p1 h0 n0) (s₁.setTop (mkF m 13 #[.val (.long q0), .second, .val (.int p1)] [(.int (0 : Int32))])) := by
    show own_Ends p e below s _ _ _ (s₁.setTop (mkF m 13 #[.val (.long q0), .second, .val (.int p1)] [(.int (0 : Int32))]))
    exact own_retI X0 hx hlk hret (hb hby d2_13) ⟨congrArg (fun w => some (Value.int w)) (Eq.symm hF), N0, e0⟩ (by decide) (by decide)
  have B2_13b (hF : f2_0 q0 p1 = f2_13b q0 p1) : own_Ends p e below s ({ frames := 0, cells := 0, slots := 0, locals := 0 } : Room).cells ({ frames := 0, cells := 0, slots := 0, locals := 0 } : Room).slots (Q2 Z q0 p1 h0 n0) (s₁.setTop (mkF m 13 #[.val (.long q0), .second, .val (.int p1)] [(.int (1 : Int32))])) := by
    show own_Ends p e below s _ _ _ (s₁.setTop (mkF m 13 #[.val (.long q0), .second, .val (.int p1)] [(.int (1 : Int32))]))
    exact own_retI X0 hx hlk hret (hb hby d2_13) ⟨congrArg (fun w => some (Value.int w)) (Eq.symm hF), N0, e0⟩ (by decide) (by decide)
  show own_Ends p e below s _ _ _ (s₁.setTop (mkF m 0 #[.val (.long q0), .second, .val (.int p1)] []))
  refine own_step (fun t k => XS.lloadN X0.here hx rfl (hb hby d2_0) rfl k) ?_
  show own_Ends p e below s _ _ _ (s₁.setTop (mkF m 1 #[.val (.long q0), .second, .val (.int p1)] [(.long q0)]))
  refine own_step (fun t k => XS.iloadN X0.here hx rfl (hb hby d2_1) rfl k) ?_
  show own_Ends p e below s _ _ _ (s₁.setTop (mkF m 2 #[.val (.long q0), .second, .val (.int p1)] [(.int p1), (.long q0)]))
  refine own_step (fun t k => XS.lushr X0.here hx rfl (hb hby d2_2) rfl k) ?_
  show own_Ends p e below s _ _ _ (s₁.setTop (mkF m 3 #[.val (.long q0), .second, .val (.int p1)] [(.long ((q0.toUInt64 >>> (p1 &&& 0x3f).toInt64.toUInt64).toInt64))]))
  refine own_step (fun t k => XS.lconst X0.here hx rfl (hb hby d2_3) k) ?_
  show own_Ends p e below s _ _ _ (s₁.setTop (mkF m 4 #[.val (.long q0), .second, .val (.int p1)] [(.long (0 : Int64)), (.long ((q0.toUInt64 >>> (p1 &&& 0x3f).toInt64.toUInt64).toInt64))]))
  refine own_step (fun t k => XS.lcmp X0.here hx rfl (hb hby d2_4) rfl k) ?_
  show own_Ends p e below s _ _ _ (s₁.setTop (mkF m 5 #[.val (.long q0), .second, .val (.int p1)] [(.int (lcmpW ((q0.toUInt64 >>> (p1 &&& 0x3f).toInt64.toUInt64).toInt64) (0 : Int64)))]))
  by_cases hc5_1 : ((q0.toUInt64 >>> (p1 &&& 0x3f).toInt64.toUInt64).toInt64) = (0 : Int64)
  · -- ((q0.toUInt64 >>> (p1 &&& 0x3f).toInt64.toUInt64).toInt64) = (0 : Int64)
    refine own_step (fun t k => XS.ifYes X0.here hx rfl (pc0 := 5) (pc' := 12) rfl (hb hby d2_5) rfl ((if0 _ _).trans (teq ((lw_eq ((q0.toUInt64 >>> (p1 &&& 0x3f).toInt64.toUInt64).toInt64) (0 : Int64)).mpr hc5_1)).1) (by decide) (by decide) k) ?_
    show own_Ends p e below s _ _ _ (s₁.setTop (mkF m 12 #[.val (.long q0), .second, .val (.int p1)] []))
    refine own_step (fun t k => XS.iconst X0.here hx rfl (hb hby d2_12) k) ?_
    show own_Ends p e below s _ _ _ (s₁.setTop (mkF m 13 #[.val (.long q0), .second, .val (.int p1)] [(.int (0 : Int32))]))
    exact B2_13 ((show f2_0 q0 p1 = _ from rfl).trans (if_pos hc5_1))
  · -- not ((q0.toUInt64 >>> (p1 &&& 0x3f).toInt64.toUInt64).toInt64) = (0 : Int64)
    refine own_step (fun t k => XS.ifNo X0.here hx rfl (hb hby d2_5) rfl ((if0 _ _).trans (feq (fun q => hc5_1 ((lw_eq ((q0.toUInt64 >>> (p1 &&& 0x3f).toInt64.toUInt64).toInt64) (0 : Int64)).mp q))).1) k) ?_
    show own_Ends p e below s _ _ _ (s₁.setTop (mkF m 8 #[.val (.long q0), .second, .val (.int p1)] []))
    refine own_step (fun t k => XS.iconst X0.here hx rfl (hb hby d2_8) k) ?_
    show own_Ends p e below s _ _ _ (s₁.setTop (mkF m 9 #[.val (.long q0), .second, .val (.int p1)] [(.int (1 : Int32))]))
    refine own_step (fun t k => XS.goto X0.here hx rfl (pc0 := 9) (pc' := 13) rfl (hb hby d2_9) (by decide) (by decide) k) ?_
    show own_Ends p e below s _ _ _ (s₁.setTop (mkF m 13 #[.val (.long q0), .second, .val (.int p1)] [(.int (1 : Int32))]))
    exact B2_13b ((show f2_0 q0 p1 = _ from rfl).trans (if_neg hc5_1))
theorem d1_0 : decode method_3_code 0 = .ok (.iconst 1, 1) := by decide +kernel
theorem d1_1 : decode method_3_code 1 = .ok (.lload_n 0, 1) := by decide +kernel
theorem d1_2 : decode method_3_code 2 = .ok (.bipush 7, 2) := by decide +kernel
theorem d1_4 : decode method_3_code 4 = .ok (.invokestatic 7, 3) := by decide +kernel
theorem d1_7 : decode method_3_code 7 = .ok (.iadd, 1) := by decide +kernel
theorem d1_8 : decode method_3_code 8 = .ok (.lload_n 0, 1) := by decide +kernel
theorem d1_9 : decode method_3_code 9 = .ok (.bipush 14, 2) := by decide +kernel
theorem d1_11 : decode method_3_code 11 = .ok (.invokestatic 7, 3) := by decide +kernel
theorem d1_14 : decode method_3_code 14 = .ok (.iadd, 1) := by decide +kernel
theorem d1_15 : decode method_3_code 15 = .ok (.lload_n 0, 1) := by decide +kernel
theorem d1_16 : decode method_3_code 16 = .ok (.bipush 21, 2) := by decide +kernel
theorem d1_18 : decode method_3_code 18 = .ok (.invokestatic 7, 3) := by decide +kernel
theorem d1_21 : decode method_3_code 21 = .ok (.iadd, 1) := by decide +kernel
theorem d1_22 : decode method_3_code 22 = .ok (.lload_n 0, 1) := by decide +kernel
theorem d1_23 : decode method_3_code 23 = .ok (.bipush 28, 2) := by decide +kernel
theorem d1_25 : decode method_3_code 25 = .ok (.invokestatic 7, 3) := by decide +kernel
theorem d1_28 : decode method_3_code 28 = .ok (.iadd, 1) := by decide +kernel
theorem d1_29 : decode method_3_code 29 = .ok (.lload_n 0, 1) := by decide +kernel
theorem d1_30 : decode method_3_code 30 = .ok (.bipush 35, 2) := by decide +kernel
theorem d1_32 : decode method_3_code 32 = .ok (.invokestatic 7, 3) := by decide +kernel
theorem d1_35 : decode method_3_code 35 = .ok (.iadd, 1) := by decide +kernel
theorem d1_36 : decode method_3_code 36 = .ok (.lload_n 0, 1) := by decide +kernel
theorem d1_37 : decode method_3_code 37 = .ok (.bipush 42, 2) := by decide +kernel
theorem d1_39 : decode method_3_code 39 = .ok (.invokestatic 7, 3) := by decide +kernel
theorem d1_42 : decode method_3_code 42 = .ok (.iadd, 1) := by decide +kernel
theorem d1_43 : decode method_3_code 43 = .ok (.lload_n 0, 1) := by decide +kernel
theorem d1_44 : decode method_3_code 44 = .ok (.bipush 49, 2) := by decide +kernel
theorem d1_46 : decode method_3_code 46 = .ok (.invokestatic 7, 3) := by decide +kernel
theorem d1_49 : decode method_3_code 49 = .ok (.iadd, 1) := by decide +kernel
theorem d1_50 : decode method_3_code 50 = .ok (.lload_n 0, 1) := by decide +kernel
theorem d1_51 : decode method_3_code 51 = .ok (.bipush 56, 2) := by decide +kernel
theorem d1_53 : decode method_3_code 53 = .ok (.invokestatic 7, 3) := by decide +kernel
theorem d1_56 : decode method_3_code 56 = .ok (.iadd, 1) := by decide +kernel
theorem d1_57 : decode method_3_code 57 = .ok (.lload_n 0, 1) := by decide +kernel
theorem d1_58 : decode method_3_code 58 = .ok (.bipush 63, 2) := by decide +kernel
theorem d1_60 : decode method_3_code 60 = .ok (.invokestatic 7, 3) := by decide +kernel
theorem d1_63 : decode method_3_code 63 = .ok (.iadd, 1) := by decide +kernel
theorem d1_64 : decode method_3_code 64 = .ok (.ireturn, 1) := by decide +kernel
theorem pn_1 : plainName "com/example/weftline/weftline/runner/BodyVarintPinLaw" = true := by first | (simp [plainName, overriddenIn]; done) | decide +kernel
theorem ef_1 (m : MethodId) (q0 : Int64) : entryFrame m #[(.long q0)] 2 = mkF m 0 #[.val (.long q0), .second] [] := by first | (simp [entryFrame, mkF, argsToLocals, Value.category]; done) | rfl
theorem pd1_0 : parseMethodDescriptor "(JI)I" = some ⟨[.long, .int], some .int⟩ := by decide +kernel
def f1_0 (q0 : Int64) : Int32 := ((((((((((1 : Int32) + (f2_0 q0 (7 : Int32))) + (f2_0 q0 (14 : Int32))) + (f2_0 q0 (21 : Int32))) + (f2_0 q0 (28 : Int32))) + (f2_0 q0 (35 : Int32))) + (f2_0 q0 (42 : Int32))) + (f2_0 q0 (49 : Int32))) + (f2_0 q0 (56 : Int32))) + (f2_0 q0 (63 : Int32)))
def Q1 (Z : State) (q0 : Int64) (h0 : Heap) (n0 : Nat) (v : Option Value) (h : Heap) (L : List Loc) : Prop := v = some (.int (f1_0 q0)) ∧ Fr n0 L ∧ h = h0
set_option maxRecDepth 65536 in
set_option maxHeartbeats 40000000 in
theorem rm1 (l : Launch) (Z : State) (a0 : Array Value) (hw : ∀ d ∈ tables_1, d.before a0 Z = true) (ws : List Jvm.Cond) (q0 : Int64) (h0 : Heap) (n0 : Nat) :
    MetFree l (⟨"com/example/weftline/weftline/runner/BodyVarintPinLaw", "minLength", "(J)I"⟩ : MethodName) (head1 (Jvm.Cond.code (⟨"com/example/weftline/weftline/runner/BodyVarintPinLaw", "minLength", "(J)I"⟩ : MethodName) method_3_code 2 (some .int) :: ws) ({ frames := 1, cells := 0, slots := 0, locals := 15 } : Room)) (fun a U => a = #[(.long q0)] ∧ Z.Warmed39 U.vm ∧ U.heap = h0) (fun _ _ _ _ _ => True) (fun _ U o U' => ∃ v L, o = .returned v ∧ (Q1 Z q0 h0 n0) v U'.heap L ∧ FrameEnd U o U' L ({ frames := 1, cells := 0, slots := 0, locals := 15 } : Room).cells ({ frames := 1, cells := 0, slots := 0, locals := 15 } : Room).slots) := by
  refine MetFree.of_bodySF (plainFor_of_name pn_1) hisR ?_
  intro p e s m args below meth c s₁ Bd hml0 hP hK
  obtain ⟨rfl, hZ, hh⟩ := hP
  have hx := Bd.exec
  have hby := Bd.bytes
  have hret := Bd.returns
  have hlk := BodyLoose.notSynchronized Bd
  have hml : c.maxLocals = 2 := hml0
  have hown : s.vm.findClass "com/example/weftline/weftline/runner/BodyVarintPinLaw" = some m.cls := findClass_of_methodNamed Bd.named
  have hnm := (name_of_methodNamed Bd.named Bd.method).1
  have X0 : Stand p l e ({ frames := 1, cells := 0, slots := 0, locals := 15 } : Room) s m #[(.long q0)] below meth c s₁ [] 0 0 := Stand.of_body Bd
  have e0 : s₁.heap = h0 := by rw [← hh, Bd.state]; rfl
  have N0 := Fr.nil n0
  show own_Ends p e below s ({ frames := 1, cells := 0, slots := 0, locals := 15 } : Room).cells ({ frames := 1, cells := 0, slots := 0, locals := 15 } : Room).slots (Q1 Z q0 h0 n0) (s₁.setTop (entryFrame m #[(.long q0)] 2))
  refine own_cast (ef_1 m q0) ?_
  show own_Ends p e below s _ _ _ (s₁.setTop (mkF m 0 #[.val (.long q0), .second] []))
  refine own_step (fun t k => XS.iconst X0.here hx rfl (hb hby d1_0) k) ?_
  show own_Ends p e below s _ _ _ (s₁.setTop (mkF m 1 #[.val (.long q0), .second] [(.int (1 : Int32))]))
  refine own_step (fun t k => XS.lloadN X0.here hx rfl (hb hby d1_1) rfl k) ?_
  show own_Ends p e below s _ _ _ (s₁.setTop (mkF m 2 #[.val (.long q0), .second] [(.long q0), (.int (1 : Int32))]))
  refine own_step (fun t k => XS.bipush X0.here hx rfl (hb hby d1_2) k) ?_
  show own_Ends p e below s _ _ _ (s₁.setTop (mkF m 4 #[.val (.long q0), .second] [(.int (7 : Int32)), (.long q0), (.int (1 : Int32))]))
  obtain ⟨_, _, ⟨T1, L1, k1, n1⟩, -, X1, ⟨Lc1, hQ1, l1, y1, z1⟩, st1⟩ := Jvm.LawKit.callS X0 hx (y := (⟨"com/example/weftline/weftline/runner/BodyVarintPinLaw", "nz", "(JI)I"⟩ : MethodName)) hown (mvT hZ (hw _ (List.mem_of_getElem? (i := 4) rfl))) (mvT hZ (hw _ (List.mem_of_getElem? (i := 5) rfl))) (mvT hZ (hw _ (List.mem_of_getElem? (i := 2) rfl))) (mvT hZ (hw _ (List.mem_of_getElem? (i := 6) rfl))) (by decide) (backOf (W := 1) (rm2 l Z a0 hw [] q0 (7 : Int32)  h0 n0  ) hZ (hw _ (List.mem_of_getElem? (i := 6) rfl)) (hw _ (List.mem_of_getElem? (i := 2) rfl)) (by decide) (by decide)) (g := (mkF m 4 #[.val (.long q0), .second] [(.int (7 : Int32)), (.long q0), (.int (1 : Int32))])) rfl (by rw [hml]; rfl) (argsL := [(.long q0), (.int (7 : Int32))]) (rest := [(.int (1 : Int32))]) (lenOf pd1_0 rfl) rfl (by show 2 * 0 + _ ≤ _; exact Nat.le_of_eq rfl) (hb hby d1_4) (fun _ _ => ⟨rfl, e0, (by decide : 0 + 0 ≤ _), (by decide : 0 + 0 ≤ _)⟩)
  dsimp only [Pt.U, Pt.locs, Pt.cells, Pt.slots] at X1 l1 y1 z1 st1 hQ1
  subst l1 y1 z1
  obtain ⟨rfl, N1q, e1⟩ := hQ1
  have N1 := Fr.app N0 N1q
  refine own_step st1 ?_
  show own_Ends p e below s _ _ _ (T1.setTop (mkF m 7 #[.val (.long q0), .second] [(.int (f2_0 q0 (7 : Int32))), (.int (1 : Int32))]))
  refine own_step (fun t k => XS.iadd X1.here hx rfl (hb hby d1_7) rfl k) ?_
  show own_Ends p e below s _ _ _ (T1.setTop (mkF m 8 #[.val (.long q0), .second] [(.int ((1 : Int32) + (f2_0 q0 (7 : Int32))))]))
  refine own_step (fun t k => XS.lloadN X1.here hx rfl (hb hby d1_8) rfl k) ?_
  show own_Ends p e below s _ _ _ (T1.setTop (mkF m 9 #[.val (.long q0), .second] [(.long q0), (.int ((1 : Int32) + (f2_0 q0 (7 : Int32))))]))
  refine own_step (fun t k => XS.bipush X1.here hx rfl (hb hby d1_9) k) ?_
  show own_Ends p e below s _ _ _ (T1.setTop (mkF m 11 #[.val (.long q0), .second] [(.int (14 : Int32)), (.long q0), (.int ((1 : Int32) + (f2_0 q0 (7 : Int32))))]))
  obtain ⟨_, _, ⟨T2, L2, k2, n2⟩, -, X2, ⟨Lc2, hQ2, l2, y2, z2⟩, st2⟩ := Jvm.LawKit.callS X1 hx (y := (⟨"com/example/weftline/weftline/runner/BodyVarintPinLaw", "nz", "(JI)I"⟩ : MethodName)) hown (mvT hZ (hw _ (List.mem_of_getElem? (i := 4) rfl))) (mvT hZ (hw _ (List.mem_of_getElem? (i := 5) rfl))) (mvT hZ (hw _ (List.mem_of_getElem? (i := 2) rfl))) (mvT hZ (hw _ (List.mem_of_getElem? (i := 6) rfl))) (by decide) (backOf (W := 1) (rm2 l Z a0 hw [] q0 (14 : Int32)  h0 n0  ) hZ (hw _ (List.mem_of_getElem? (i := 6) rfl)) (hw _ (List.mem_of_getElem? (i := 2) rfl)) (by decide) (by decide)) (g := (mkF m 11 #[.val (.long q0), .second] [(.int (14 : Int32)), (.long q0), (.int ((1 : Int32) + (f2_0 q0 (7 : Int32))))])) rfl (by rw [hml]; rfl) (argsL := [(.long q0), (.int (14 : Int32))]) (rest := [(.int ((1 : Int32) + (f2_0 q0 (7 : Int32))))]) (lenOf pd1_0 rfl) rfl (by show 2 * 0 + _ ≤ _; exact Nat.le_of_eq rfl) (hb hby d1_11) (fun _ _ => ⟨rfl, e1, (by decide : 0 + 0 ≤ _), (by decide : 0 + 0 ≤ _)⟩)
  dsimp only [Pt.U, Pt.locs, Pt.cells, Pt.slots] at X2 l2 y2 z2 st2 hQ2
  subst l2 y2 z2
  obtain ⟨rfl, N2q, e2⟩ := hQ2
  have N2 := Fr.app N1 N2q
  refine own_step st2 ?_
  show own_Ends p e below s _ _ _ (T2.setTop (mkF m 14 #[.val (.long q0), .second] [(.int (f2_0 q0 (14 : Int32))), (.int ((1 : Int32) + (f2_0 q0 (7 : Int32))))]))
  refine own_step (fun t k => XS.iadd X2.here hx rfl (hb hby d1_14) rfl k) ?_
  show own_Ends p e below s _ _ _ (T2.setTop (mkF m 15 #[.val (.long q0), .second] [(.int (((1 : Int32) + (f2_0 q0 (7 : Int32))) + (f2_0 q0 (14 : Int32))))]))
  refine own_step (fun t k => XS.lloadN X2.here hx rfl (hb hby d1_15) rfl k) ?_
  show own_Ends p e below s _ _ _ (T2.setTop (mkF m 16 #[.val (.long q0), .second] [(.long q0), (.int (((1 : Int32) + (f2_0 q0 (7 : Int32))) + (f2_0 q0 (14 : Int32))))]))
  refine own_step (fun t k => XS.bipush X2.here hx rfl (hb hby d1_16) k) ?_
  show own_Ends p e below s _ _ _ (T2.setTop (mkF m 18 #[.val (.long q0), .second] [(.int (21 : Int32)), (.long q0), (.int (((1 : Int32) + (f2_0 q0 (7 : Int32))) + (f2_0 q0 (14 : Int32))))]))
  obtain ⟨_, _, ⟨T3, L3, k3, n3⟩, -, X3, ⟨Lc3, hQ3, l3, y3, z3⟩, st3⟩ := Jvm.LawKit.callS X2 hx (y := (⟨"com/example/weftline/weftline/runner/BodyVarintPinLaw", "nz", "(JI)I"⟩ : MethodName)) hown (mvT hZ (hw _ (List.mem_of_getElem? (i := 4) rfl))) (mvT hZ (hw _ (List.mem_of_getElem? (i := 5) rfl))) (mvT hZ (hw _ (List.mem_of_getElem? (i := 2) rfl))) (mvT hZ (hw _ (List.mem_of_getElem? (i := 6) rfl))) (by decide) (backOf (W := 1) (rm2 l Z a0 hw [] q0 (21 : Int32)  h0 n0  ) hZ (hw _ (List.mem_of_getElem? (i := 6) rfl)) (hw _ (List.mem_of_getElem? (i := 2) rfl)) (by decide) (by decide)) (g := (mkF m 18 #[.val (.long q0), .second] [(.int (21 : Int32)), (.long q0), (.int (((1 : Int32) + (f2_0 q0 (7 : Int32))) + (f2_0 q0 (14 : Int32))))])) rfl (by rw [hml]; rfl) (argsL := [(.long q0), (.int (21 : Int32))]) (rest := [(.int (((1 : Int32) + (f2_0 q0 (7 : Int32))) + (f2_0 q0 (14 : Int32))))]) (lenOf pd1_0 rfl) rfl (by show 2 * 0 + _ ≤ _; exact Nat.le_of_eq rfl) (hb hby d1_18) (fun _ _ => ⟨rfl, e2, (by decide : 0 + 0 ≤ _), (by decide : 0 + 0 ≤ _)⟩)
  dsimp only [Pt.U, Pt.locs, Pt.cells, Pt.slots] at X3 l3 y3 z3 st3 hQ3
  subst l3 y3 z3
  obtain ⟨rfl, N3q, e3⟩ := hQ3
  have N3 := Fr.app N2 N3q
  refine own_step st3 ?_
  show own_Ends p e below s _ _ _ (T3.setTop (mkF m 21 #[.val (.long q0), .second] [(.int (f2_0 q0 (21 : Int32))), (.int (((1 : Int32) + (f2_0 q0 (7 : Int32))) + (f2_0 q0 (14 : Int32))))]))
  refine own_step (fun t k => XS.iadd X3.here hx rfl (hb hby d1_21) rfl k) ?_
  show own_Ends p e below s _ _ _ (T3.setTop (mkF m 22 #[.val (.long q0), .second] [(.int ((((1 : Int32) + (f2_0 q0 (7 : Int32))) + (f2_0 q0 (14 : Int32))) + (f2_0 q0 (21 : Int32))))]))
  refine own_step (fun t k => XS.lloadN X3.here hx rfl (hb hby d1_22) rfl k) ?_
  show own_Ends p e below s _ _ _ (T3.setTop (mkF m 23 #[.val (.long q0), .second] [(.long q0), (.int ((((1 : Int32) + (f2_0 q0 (7 : Int32))) + (f2_0 q0 (14 : Int32))) + (f2_0 q0 (21 : Int32))))]))
  refine own_step (fun t k => XS.bipush X3.here hx rfl (hb hby d1_23) k) ?_
  show own_Ends p e below s _ _ _ (T3.setTop (mkF m 25 #[.val (.long q0), .second] [(.int (28 : Int32)), (.long q0), (.int ((((1 : Int32) + (f2_0 q0 (7 : Int32))) + (f2_0 q0 (14 : Int32))) + (f2_0 q0 (21 : Int32))))]))
  obtain ⟨_, _, ⟨T4, L4, k4, n4⟩, -, X4, ⟨Lc4, hQ4, l4, y4, z4⟩, st4⟩ := Jvm.LawKit.callS X3 hx (y := (⟨"com/example/weftline/weftline/runner/BodyVarintPinLaw", "nz", "(JI)I"⟩ : MethodName)) hown (mvT hZ (hw _ (List.mem_of_getElem? (i := 4) rfl))) (mvT hZ (hw _ (List.mem_of_getElem? (i := 5) rfl))) (mvT hZ (hw _ (List.mem_of_getElem? (i := 2) rfl))) (mvT hZ (hw _ (List.mem_of_getElem? (i := 6) rfl))) (by decide) (backOf (W := 1) (rm2 l Z a0 hw [] q0 (28 : Int32)  h0 n0  ) hZ (hw _ (List.mem_of_getElem? (i := 6) rfl)) (hw _ (List.mem_of_getElem? (i := 2) rfl)) (by decide) (by decide)) (g := (mkF m 25 #[.val (.long q0), .second] [(.int (28 : Int32)), (.long q0), (.int ((((1 : Int32) + (f2_0 q0 (7 : Int32))) + (f2_0 q0 (14 : Int32))) + (f2_0 q0 (21 : Int32))))])) rfl (by rw [hml]; rfl) (argsL := [(.long q0), (.int (28 : Int32))]) (rest := [(.int ((((1 : Int32) + (f2_0 q0 (7 : Int32))) + (f2_0 q0 (14 : Int32))) + (f2_0 q0 (21 : Int32))))]) (lenOf pd1_0 rfl) rfl (by show 2 * 0 + _ ≤ _; exact Nat.le_of_eq rfl) (hb hby d1_25) (fun _ _ => ⟨rfl, e3, (by decide : 0 + 0 ≤ _), (by decide : 0 + 0 ≤ _)⟩)
  dsimp only [Pt.U, Pt.locs, Pt.cells, Pt.slots] at X4 l4 y4 z4 st4 hQ4
  subst l4 y4 z4
  obtain ⟨rfl, N4q, e4⟩ := hQ4
  have N4 := Fr.app N3 N4q
  refine own_step st4 ?_
  show own_Ends p e below s _ _ _ (T4.setTop (mkF m 28 #[.val (.long q0), .second] [(.int (f2_0 q0 (28 : Int32))), (.int ((((1 : Int32) + (f2_0 q0 (7 : Int32))) + (f2_0 q0 (14 : Int32))) + (f2_0 q0 (21 : Int32))))]))
  refine own_step (fun t k => XS.iadd X4.here hx rfl (hb hby d1_28) rfl k) ?_
  show own_Ends p e below s _ _ _ (T4.setTop (mkF m 29 #[.val (.long q0), .second] [(.int (((((1 : Int32) + (f2_0 q0 (7 : Int32))) + (f2_0 q0 (14 : Int32))) + (f2_0 q0 (21 : Int32))) + (f2_0 q0 (28 : Int32))))]))
  refine own_step (fun t k => XS.lloadN X4.here hx rfl (hb hby d1_29) rfl k) ?_
  show own_Ends p e below s _ _ _ (T4.setTop (mkF m 30 #[.val (.long q0), .second] [(.long q0), (.int (((((1 : Int32) + (f2_0 q0 (7 : Int32))) + (f2_0 q0 (14 : Int32))) + (f2_0 q0 (21 : Int32))) + (f2_0 q0 (28 : Int32))))]))
  refine own_step (fun t k => XS.bipush X4.here hx rfl (hb hby d1_30) k) ?_
  show own_Ends p e below s _ _ _ (T4.setTop (mkF m 32 #[.val (.long q0), .second] [(.int (35 : Int32)), (.long q0), (.int (((((1 : Int32) + (f2_0 q0 (7 : Int32))) + (f2_0 q0 (14 : Int32))) + (f2_0 q0 (21 : Int32))) + (f2_0 q0 (28 : Int32))))]))
  obtain ⟨_, _, ⟨T5, L5, k5, n5⟩, -, X5, ⟨Lc5, hQ5, l5, y5, z5⟩, st5⟩ := Jvm.LawKit.callS X4 hx (y := (⟨"com/example/weftline/weftline/runner/BodyVarintPinLaw", "nz", "(JI)I"⟩ : MethodName)) hown (mvT hZ (hw _ (List.mem_of_getElem? (i := 4) rfl))) (mvT hZ (hw _ (List.mem_of_getElem? (i := 5) rfl))) (mvT hZ (hw _ (List.mem_of_getElem? (i := 2) rfl))) (mvT hZ (hw _ (List.mem_of_getElem? (i := 6) rfl))) (by decide) (backOf (W := 1) (rm2 l Z a0 hw [] q0 (35 : Int32)  h0 n0  ) hZ (hw _ (List.mem_of_getElem? (i := 6) rfl)) (hw _ (List.mem_of_getElem? (i := 2) rfl)) (by decide) (by decide)) (g := (mkF m 32 #[.val (.long q0), .second] [(.int (35 : Int32)), (.long q0), (.int (((((1 : Int32) + (f2_0 q0 (7 : Int32))) + (f2_0 q0 (14 : Int32))) + (f2_0 q0 (21 : Int32))) + (f2_0 q0 (28 : Int32))))])) rfl (by rw [hml]; rfl) (argsL := [(.long q0), (.int (35 : Int32))]) (rest := [(.int (((((1 : Int32) + (f2_0 q0 (7 : Int32))) + (f2_0 q0 (14 : Int32))) + (f2_0 q0 (21 : Int32))) + (f2_0 q0 (28 : Int32))))]) (lenOf pd1_0 rfl) rfl (by show 2 * 0 + _ ≤ _; exact Nat.le_of_eq rfl) (hb hby d1_32) (fun _ _ => ⟨rfl, e4, (by decide : 0 + 0 ≤ _), (by decide : 0 + 0 ≤ _)⟩)
  dsimp only [Pt.U, Pt.locs, Pt.cells, Pt.slots] at X5 l5 y5 z5 st5 hQ5
  subst l5 y5 z5
  obtain ⟨rfl, N5q, e5⟩ := hQ5
  have N5 := Fr.app N4 N5q
  refine own_step st5 ?_
  show own_Ends p e below s _ _ _ (T5.setTop (mkF m 35 #[.val (.long q0), .second] [(.int (f2_0 q0 (35 : Int32))), (.int (((((1 : Int32) + (f2_0 q0 (7 : Int32))) + (f2_0 q0 (14 : Int32))) + (f2_0 q0 (21 : Int32))) + (f2_0 q0 (28 : Int32))))]))
  refine own_step (fun t k => XS.iadd X5.here hx rfl (hb hby d1_35) rfl k) ?_
  show own_Ends p e below s _ _ _ (T5.setTop (mkF m 36 #[.val (.long q0), .second] [(.int ((((((1 : Int32) + (f2_0 q0 (7 : Int32))) + (f2_0 q0 (14 : Int32))) + (f2_0 q0 (21 : Int32))) + (f2_0 q0 (28 : Int32))) + (f2_0 q0 (35 : Int32))))]))
  refine own_step (fun t k => XS.lloadN X5.here hx rfl (hb hby d1_36) rfl k) ?_
  show own_Ends p e below s _ _ _ (T5.setTop (mkF m 37 #[.val (.long q0), .second] [(.long q0), (.int ((((((1 : Int32) + (f2_0 q0 (7 : Int32))) + (f2_0 q0 (14 : Int32))) + (f2_0 q0 (21 : Int32))) + (f2_0 q0 (28 : Int32))) + (f2_0 q0 (35 : Int32))))]))
  refine own_step (fun t k => XS.bipush X5.here hx rfl (hb hby d1_37) k) ?_
  show own_Ends p e below s _ _ _ (T5.setTop (mkF m 39 #[.val (.long q0), .second] [(.int (42 : Int32)), (.long q0), (.int ((((((1 : Int32) + (f2_0 q0 (7 : Int32))) + (f2_0 q0 (14 : Int32))) + (f2_0 q0 (21 : Int32))) + (f2_0 q0 (28 : Int32))) + (f2_0 q0 (35 : Int32))))]))
  obtain ⟨_, _, ⟨T6, L6, k6, n6⟩, -, X6, ⟨Lc6, hQ6, l6, y6, z6⟩, st6⟩ := Jvm.LawKit.callS X5 hx (y := (⟨"com/example/weftline/weftline/runner/BodyVarintPinLaw", "nz", "(JI)I"⟩ : MethodName)) hown (mvT hZ (hw _ (List.mem_of_getElem? (i := 4) rfl))) (mvT hZ (hw _ (List.mem_of_getElem? (i := 5) rfl))) (mvT hZ (hw _ (List.mem_of_getElem? (i := 2) rfl))) (mvT hZ (hw _ (List.mem_of_getElem? (i := 6) rfl))) (by decide) (backOf (W := 1) (rm2 l Z a0 hw [] q0 (42 : Int32)  h0 n0  ) hZ (hw _ (List.mem_of_getElem? (i := 6) rfl)) (hw _ (List.mem_of_getElem? (i := 2) rfl)) (by decide) (by decide)) (g := (mkF m 39 #[.val (.long q0), .second] [(.int (42 : Int32)), (.long q0), (.int ((((((1 : Int32) + (f2_0 q0 (7 : Int32))) + (f2_0 q0 (14 : Int32))) + (f2_0 q0 (21 : Int32))) + (f2_0 q0 (28 : Int32))) + (f2_0 q0 (35 : Int32))))])) rfl (by rw [hml]; rfl) (argsL := [(.long q0), (.int (42 : Int32))]) (rest := [(.int ((((((1 : Int32) + (f2_0 q0 (7 : Int32))) + (f2_0 q0 (14 : Int32))) + (f2_0 q0 (21 : Int32))) + (f2_0 q0 (28 : Int32))) + (f2_0 q0 (35 : Int32))))]) (lenOf pd1_0 rfl) rfl (by show 2 * 0 + _ ≤ _; exact Nat.le_of_eq rfl) (hb hby d1_39) (fun _ _ => ⟨rfl, e5, (by decide : 0 + 0 ≤ _), (by decide : 0 + 0 ≤ _)⟩)
  dsimp only [Pt.U, Pt.locs, Pt.cells, Pt.slots] at X6 l6 y6 z6 st6 hQ6
  subst l6 y6 z6
  obtain ⟨rfl, N6q, e6⟩ := hQ6
  have N6 := Fr.app N5 N6q
  refine own_step st6 ?_
  show own_Ends p e below s _ _ _ (T6.setTop (mkF m 42 #[.val (.long q0), .second] [(.int (f2_0 q0 (42 : Int32))), (.int ((((((1 : Int32) + (f2_0 q0 (7 : Int32))) + (f2_0 q0 (14 : Int32))) + (f2_0 q0 (21 : Int32))) + (f2_0 q0 (28 : Int32))) + (f2_0 q0 (35 : Int32))))]))
  refine own_step (fun t k => XS.iadd X6.here hx rfl (hb hby d1_42) rfl k) ?_
  show own_Ends p e below s _ _ _ (T6.setTop (mkF m 43 #[.val (.long q0), .second] [(.int (((((((1 : Int32) + (f2_0 q0 (7 : Int32))) + (f2_0 q0 (14 : Int32))) + (f2_0 q0 (21 : Int32))) + (f2_0 q0 (28 : Int32))) + (f2_0 q0 (35 : Int32))) + (f2_0 q0 (42 : Int32))))]))
  refine own_step (fun t k => XS.lloadN X6.here hx rfl (hb hby d1_43) rfl k) ?_
  show own_Ends p e below s _ _ _ (T6.setTop (mkF m 44 #[.val (.long q0), .second] [(.long q0), (.int (((((((1 : Int32) + (f2_0 q0 (7 : Int32))) + (f2_0 q0 (14 : Int32))) + (f2_0 q0 (21 : Int32))) + (f2_0 q0 (28 : Int32))) + (f2_0 q0 (35 : Int32))) + (f2_0 q0 (42 : Int32))))]))
  refine own_step (fun t k => XS.bipush X6.here hx rfl (hb hby d1_44) k) ?_
  show own_Ends p e below s _ _ _ (T6.setTop (mkF m 46 #[.val (.long q0), .second] [(.int (49 : Int32)), (.long q0), (.int (((((((1 : Int32) + (f2_0 q0 (7 : Int32))) + (f2_0 q0 (14 : Int32))) + (f2_0 q0 (21 : Int32))) + (f2_0 q0 (28 : Int32))) + (f2_0 q0 (35 : Int32))) + (f2_0 q0 (42 : Int32))))]))
  obtain ⟨_, _, ⟨T7, L7, k7, n7⟩, -, X7, ⟨Lc7, hQ7, l7, y7, z7⟩, st7⟩ := Jvm.LawKit.callS X6 hx (y := (⟨"com/example/weftline/weftline/runner/BodyVarintPinLaw", "nz", "(JI)I"⟩ : MethodName)) hown (mvT hZ (hw _ (List.mem_of_getElem? (i := 4) rfl))) (mvT hZ (hw _ (List.mem_of_getElem? (i := 5) rfl))) (mvT hZ (hw _ (List.mem_of_getElem? (i := 2) rfl))) (mvT hZ (hw _ (List.mem_of_getElem? (i := 6) rfl))) (by decide) (backOf (W := 1) (rm2 l Z a0 hw [] q0 (49 : Int32)  h0 n0  ) hZ (hw _ (List.mem_of_getElem? (i := 6) rfl)) (hw _ (List.mem_of_getElem? (i := 2) rfl)) (by decide) (by decide)) (g := (mkF m 46 #[.val (.long q0), .second] [(.int (49 : Int32)), (.long q0), (.int (((((((1 : Int32) + (f2_0 q0 (7 : Int32))) + (f2_0 q0 (14 : Int32))) + (f2_0 q0 (21 : Int32))) + (f2_0 q0 (28 : Int32))) + (f2_0 q0 (35 : Int32))) + (f2_0 q0 (42 : Int32))))])) rfl (by rw [hml]; rfl) (argsL := [(.long q0), (.int (49 : Int32))]) (rest := [(.int (((((((1 : Int32) + (f2_0 q0 (7 : Int32))) + (f2_0 q0 (14 : Int32))) + (f2_0 q0 (21 : Int32))) + (f2_0 q0 (28 : Int32))) + (f2_0 q0 (35 : Int32))) + (f2_0 q0 (42 : Int32))))]) (lenOf pd1_0 rfl) rfl (by show 2 * 0 + _ ≤ _; exact Nat.le_of_eq rfl) (hb hby d1_46) (fun _ _ => ⟨rfl, e6, (by decide : 0 + 0 ≤ _), (by decide : 0 + 0 ≤ _)⟩)
  dsimp only [Pt.U, Pt.locs, Pt.cells, Pt.slots] at X7 l7 y7 z7 st7 hQ7
  subst l7 y7 z7
  obtain ⟨rfl, N7q, e7⟩ := hQ7
  have N7 := Fr.app N6 N7q
  refine own_step st7 ?_
  show own_Ends p e below s _ _ _ (T7.setTop (mkF m 49 #[.val (.long q0), .second] [(.int (f2_0 q0 (49 : Int32))), (.int (((((((1 : Int32) + (f2_0 q0 (7 : Int32))) + (f2_0 q0 (14 : Int32))) + (f2_0 q0 (21 : Int32))) + (f2_0 q0 (28 : Int32))) + (f2_0 q0 (35 : Int32))) + (f2_0 q0 (42 : Int32))))]))
  refine own_step (fun t k => XS.iadd X7.here hx rfl (hb hby d1_49) rfl k) ?_
  show own_Ends p e below s _ _ _ (T7.setTop (mkF m 50 #[.val (.long q0), .second] [(.int ((((((((1 : Int32) + (f2_0 q0 (7 : Int32))) + (f2_0 q0 (14 : Int32))) + (f2_0 q0 (21 : Int32))) + (f2_0 q0 (28 : Int32))) + (f2_0 q0 (35 : Int32))) + (f2_0 q0 (42 : Int32))) + (f2_0 q0 (49 : Int32))))]))
  refine own_step (fun t k => XS.lloadN X7.here hx rfl (hb hby d1_50) rfl k) ?_
  show own_Ends p e below s _ _ _ (T7.setTop (mkF m 51 #[.val (.long q0), .second] [(.long q0), (.int ((((((((1 : Int32) + (f2_0 q0 (7 : Int32))) + (f2_0 q0 (14 : Int32))) + (f2_0 q0 (21 : Int32))) + (f2_0 q0 (28 : Int32))) + (f2_0 q0 (35 : Int32))) + (f2_0 q0 (42 : Int32))) + (f2_0 q0 (49 : Int32))))]))
  refine own_step (fun t k => XS.bipush X7.here hx rfl (hb hby d1_51) k) ?_
  show own_Ends p e below s _ _ _ (T7.setTop (mkF m 53 #[.val (.long q0), .second] [(.int (56 : Int32)), (.long q0), (.int ((((((((1 : Int32) + (f2_0 q0 (7 : Int32))) + (f2_0 q0 (14 : Int32))) + (f2_0 q0 (21 : Int32))) + (f2_0 q0 (28 : Int32))) + (f2_0 q0 (35 : Int32))) + (f2_0 q0 (42 : Int32))) + (f2_0 q0 (49 : Int32))))]))
  obtain ⟨_, _, ⟨T8, L8, k8, n8⟩, -, X8, ⟨Lc8, hQ8, l8, y8, z8⟩, st8⟩ := Jvm.LawKit.callS X7 hx (y := (⟨"com/example/weftline/weftline/runner/BodyVarintPinLaw", "nz", "(JI)I"⟩ : MethodName)) hown (mvT hZ (hw _ (List.mem_of_getElem? (i := 4) rfl))) (mvT hZ (hw _ (List.mem_of_getElem? (i := 5) rfl))) (mvT hZ (hw _ (List.mem_of_getElem? (i := 2) rfl))) (mvT hZ (hw _ (List.mem_of_getElem? (i := 6) rfl))) (by decide) (backOf (W := 1) (rm2 l Z a0 hw [] q0 (56 : Int32)  h0 n0  ) hZ (hw _ (List.mem_of_getElem? (i := 6) rfl)) (hw _ (List.mem_of_getElem? (i := 2) rfl)) (by decide) (by decide)) (g := (mkF m 53 #[.val (.long q0), .second] [(.int (56 : Int32)), (.long q0), (.int ((((((((1 : Int32) + (f2_0 q0 (7 : Int32))) + (f2_0 q0 (14 : Int32))) + (f2_0 q0 (21 : Int32))) + (f2_0 q0 (28 : Int32))) + (f2_0 q0 (35 : Int32))) + (f2_0 q0 (42 : Int32))) + (f2_0 q0 (49 : Int32))))])) rfl (by rw [hml]; rfl) (argsL := [(.long q0), (.int (56 : Int32))]) (rest := [(.int ((((((((1 : Int32) + (f2_0 q0 (7 : Int32))) + (f2_0 q0 (14 : Int32))) + (f2_0 q0 (21 : Int32))) + (f2_0 q0 (28 : Int32))) + (f2_0 q0 (35 : Int32))) + (f2_0 q0 (42 : Int32))) + (f2_0 q0 (49 : Int32))))]) (lenOf pd1_0 rfl) rfl (by show 2 * 0 + _ ≤ _; exact Nat.le_of_eq rfl) (hb hby d1_53) (fun _ _ => ⟨rfl, e7, (by decide : 0 + 0 ≤ _), (by decide : 0 + 0 ≤ _)⟩)
  dsimp only [Pt.U, Pt.locs, Pt.cells, Pt.slots] at X8 l8 y8 z8 st8 hQ8
  subst l8 y8 z8
  obtain ⟨rfl, N8q, e8⟩ := hQ8
  have N8 := Fr.app N7 N8q
  refine own_step st8 ?_
  show own_Ends p e below s _ _ _ (T8.setTop (mkF m 56 #[.val (.long q0), .second] [(.int (f2_0 q0 (56 : Int32))), (.int ((((((((1 : Int32) + (f2_0 q0 (7 : Int32))) + (f2_0 q0 (14 : Int32))) + (f2_0 q0 (21 : Int32))) + (f2_0 q0 (28 : Int32))) + (f2_0 q0 (35 : Int32))) + (f2_0 q0 (42 : Int32))) + (f2_0 q0 (49 : Int32))))]))
  refine own_step (fun t k => XS.iadd X8.here hx rfl (hb hby d1_56) rfl k) ?_
  show own_Ends p e below s _ _ _ (T8.setTop (mkF m 57 #[.val (.long q0), .second] [(.int (((((((((1 : Int32) + (f2_0 q0 (7 : Int32))) + (f2_0 q0 (14 : Int32))) + (f2_0 q0 (21 : Int32))) + (f2_0 q0 (28 : Int32))) + (f2_0 q0 (35 : Int32))) + (f2_0 q0 (42 : Int32))) + (f2_0 q0 (49 : Int32))) + (f2_0 q0 (56 : Int32))))]))
  refine own_step (fun t k => XS.lloadN X8.here hx rfl (hb hby d1_57) rfl k) ?_
  show own_Ends p e below s _ _ _ (T8.setTop (mkF m 58 #[.val (.long q0), .second] [(.long q0), (.int (((((((((1 : Int32) + (f2_0 q0 (7 : Int32))) + (f2_0 q0 (14 : Int32))) + (f2_0 q0 (21 : Int32))) + (f2_0 q0 (28 : Int32))) + (f2_0 q0 (35 : Int32))) + (f2_0 q0 (42 : Int32))) + (f2_0 q0 (49 : Int32))) + (f2_0 q0 (56 : Int32))))]))
  refine own_step (fun t k => XS.bipush X8.here hx rfl (hb hby d1_58) k) ?_
  show own_Ends p e below s _ _ _ (T8.setTop (mkF m 60 #[.val (.long q0), .second] [(.int (63 : Int32)), (.long q0), (.int (((((((((1 : Int32) + (f2_0 q0 (7 : Int32))) + (f2_0 q0 (14 : Int32))) + (f2_0 q0 (21 : Int32))) + (f2_0 q0 (28 : Int32))) + (f2_0 q0 (35 : Int32))) + (f2_0 q0 (42 : Int32))) + (f2_0 q0 (49 : Int32))) + (f2_0 q0 (56 : Int32))))]))
  obtain ⟨_, _, ⟨T9, L9, k9, n9⟩, -, X9, ⟨Lc9, hQ9, l9, y9, z9⟩, st9⟩ := Jvm.LawKit.callS X8 hx (y := (⟨"com/example/weftline/weftline/runner/BodyVarintPinLaw", "nz", "(JI)I"⟩ : MethodName)) hown (mvT hZ (hw _ (List.mem_of_getElem? (i := 4) rfl))) (mvT hZ (hw _ (List.mem_of_getElem? (i := 5) rfl))) (mvT hZ (hw _ (List.mem_of_getElem? (i := 2) rfl))) (mvT hZ (hw _ (List.mem_of_getElem? (i := 6) rfl))) (by decide) (backOf (W := 1) (rm2 l Z a0 hw [] q0 (63 : Int32)  h0 n0  ) hZ (hw _ (List.mem_of_getElem? (i := 6) rfl)) (hw _ (List.mem_of_getElem? (i := 2) rfl)) (by decide) (by decide)) (g := (mkF m 60 #[.val (.long q0), .second] [(.int (63 : Int32)), (.long q0), (.int (((((((((1 : Int32) + (f2_0 q0 (7 : Int32))) + (f2_0 q0 (14 : Int32))) + (f2_0 q0 (21 : Int32))) + (f2_0 q0 (28 : Int32))) + (f2_0 q0 (35 : Int32))) + (f2_0 q0 (42 : Int32))) + (f2_0 q0 (49 : Int32))) + (f2_0 q0 (56 : Int32))))])) rfl (by rw [hml]; rfl) (argsL := [(.long q0), (.int (63 : Int32))]) (rest := [(.int (((((((((1 : Int32) + (f2_0 q0 (7 : Int32))) + (f2_0 q0 (14 : Int32))) + (f2_0 q0 (21 : Int32))) + (f2_0 q0 (28 : Int32))) + (f2_0 q0 (35 : Int32))) + (f2_0 q0 (42 : Int32))) + (f2_0 q0 (49 : Int32))) + (f2_0 q0 (56 : Int32))))]) (lenOf pd1_0 rfl) rfl (by show 2 * 0 + _ ≤ _; exact Nat.le_of_eq rfl) (hb hby d1_60) (fun _ _ => ⟨rfl, e8, (by decide : 0 + 0 ≤ _), (by decide : 0 + 0 ≤ _)⟩)
  dsimp only [Pt.U, Pt.locs, Pt.cells, Pt.slots] at X9 l9 y9 z9 st9 hQ9
  subst l9 y9 z9
  obtain ⟨rfl, N9q, e9⟩ := hQ9
  have N9 := Fr.app N8 N9q
  refine own_step st9 ?_
  show own_Ends p e below s _ _ _ (T9.setTop (mkF m 63 #[.val (.long q0), .second] [(.int (f2_0 q0 (63 : Int32))), (.int (((((((((1 : Int32) + (f2_0 q0 (7 : Int32))) + (f2_0 q0 (14 : Int32))) + (f2_0 q0 (21 : Int32))) + (f2_0 q0 (28 : Int32))) + (f2_0 q0 (35 : Int32))) + (f2_0 q0 (42 : Int32))) + (f2_0 q0 (49 : Int32))) + (f2_0 q0 (56 : Int32))))]))
  refine own_step (fun t k => XS.iadd X9.here hx rfl (hb hby d1_63) rfl k) ?_
  show own_Ends p e below s _ _ _ (T9.setTop (mkF m 64 #[.val (.long q0), .second] [(.int ((((((((((1 : Int32) + (f2_0 q0 (7 : Int32))) + (f2_0 q0 (14 : Int32))) + (f2_0 q0 (21 : Int32))) + (f2_0 q0 (28 : Int32))) + (f2_0 q0 (35 : Int32))) + (f2_0 q0 (42 : Int32))) + (f2_0 q0 (49 : Int32))) + (f2_0 q0 (56 : Int32))) + (f2_0 q0 (63 : Int32))))]))
  exact own_retI X9 hx hlk hret (hb hby d1_64) ⟨congrArg (fun w => some (Value.int w)) (Eq.symm (show f1_0 q0 = _ from rfl)), N9, e9⟩ (by decide) (by decide)
theorem d3_0 : decode jdk_29_method_65_code 0 = .ok (.iload_n 0, 1) := by decide +kernel
theorem d3_1 : decode jdk_29_method_65_code 1 = .ok (.iload_n 1, 1) := by decide +kernel
theorem d3_2 : decode jdk_29_method_65_code 2 = .ok (.if_icmp .lt 7, 3) := by decide +kernel
theorem d3_5 : decode jdk_29_method_65_code 5 = .ok (.iload_n 0, 1) := by decide +kernel
theorem d3_6 : decode jdk_29_method_65_code 6 = .ok (.goto 4, 3) := by decide +kernel
theorem d3_9 : decode jdk_29_method_65_code 9 = .ok (.iload_n 1, 1) := by decide +kernel
theorem d3_10 : decode jdk_29_method_65_code 10 = .ok (.ireturn, 1) := by decide +kernel
theorem ef_3 (m : MethodId) (p0 : Int32) (p1 : Int32) : entryFrame m #[(.int p0), (.int p1)] 2 = mkF m 0 #[.val (.int p0), .val (.int p1)] [] := by first | (simp [entryFrame, mkF, argsToLocals, Value.category]; done) | rfl
def f3_10 (p0 : Int32) (p1 : Int32) : Int32 := p1
def f3_10b (p0 : Int32) (p1 : Int32) : Int32 := p0
def f3_0 (p0 : Int32) (p1 : Int32) : Int32 := (if p0 < p1 then f3_10 p0 p1 else f3_10b p0 p1)
def Q3 (Z : State) (p0 : Int32) (p1 : Int32) (h0 : Heap) (n0 : Nat) (v : Option Value) (h : Heap) (L : List Loc) : Prop := v = some (.int (f3_0 p0 p1)) ∧ Fr n0 L ∧ h = h0
set_option maxRecDepth 65536 in
set_option maxHeartbeats 40000000 in
theorem rm3 (l : Launch) (Z : State) (a0 : Array Value) (hw : ∀ d ∈ tables_1, d.before a0 Z = true) (ws : List Jvm.Cond) (p0 : Int32) (p1 : Int32) (h0 : Heap) (n0 : Nat) :
    MetFree l (⟨"java/lang/Math", "max", "(II)I"⟩ : MethodName) (head1 (Jvm.Cond.code (⟨"java/lang/Math", "max", "(II)I"⟩ : MethodName) jdk_29_method_65_code 2 (some .int) :: ws) ({ frames := 0, cells := 0, slots := 0, locals := 0 } : Room)) (fun a U => a = #[(.int p0), (.int p1)] ∧ Z.Warmed39 U.vm ∧ U.heap = h0) (fun _ _ _ _ _ => True) (fun _ U o U' => ∃ v L, o = .returned v ∧ (Q3 Z p0 p1 h0 n0) v U'.heap L ∧ FrameEnd U o U' L ({ frames := 0, cells := 0, slots := 0, locals := 0 } : Room).cells ({ frames := 0, cells := 0, slots := 0, locals := 0 } : Room).slots) := by
  refine MetFree.of_bodySF (Jvm.Free.JP.mathPlain rfl (by decide +kernel)) hisR ?_
  intro p e s m args below meth c s₁ Bd hml0 hP hK
  obtain ⟨rfl, hZ, hh⟩ := hP
  have hx := Bd.exec
  have hby := Bd.bytes
  have hret := Bd.returns
  have hlk := BodyLoose.notSynchronized Bd
  have hml : c.maxLocals = 2 := hml0
  have hown : s.vm.findClass "java/lang/Math" = some m.cls := findClass_of_methodNamed Bd.named
  have hnm := (name_of_methodNamed Bd.named Bd.method).1
  have X0 : Stand p l e ({ frames := 0, cells := 0, slots := 0, locals := 0 } : Room) s m #[(.int p0), (.int p1)] below meth c s₁ [] 0 0 := Stand.of_body Bd
  have e0 : s₁.heap = h0 := by rw [← hh, Bd.state]; rfl
  have N0 := Fr.nil n0
  show own_Ends p e below s ({ frames := 0, cells := 0, slots := 0, locals := 0 } : Room).cells ({ frames := 0, cells := 0, slots := 0, locals := 0 } : Room).slots (Q3 Z p0 p1 h0 n0) (s₁.setTop (entryFrame m #[(.int p0), (.int p1)] 2))
  refine own_cast (ef_3 m p0 p1) ?_
  have B3_10 (hF : f3_0 p0 p1 = f3_10 p0 p1) : own_Ends p e below s ({ frames := 0, cells := 0, slots := 0, locals := 0 } : Room).cells ({ frames := 0, cells := 0, slots := 0, locals := 0 } : Room).slots (Q3 Z p0 p1 h0 n0) (s₁.setTop (mkF m 10 #[.val (.int p0), .val (.int p1)] [(.int p1)])) := by
    show own_Ends p e below s _ _ _ (s₁.setTop (mkF m 10 #[.val (.int p0), .val (.int p1)] [(.int p1)]))
    exact own_retI X0 hx hlk hret (hb hby d3_10) ⟨congrArg (fun w => some (Value.int w)) (Eq.symm hF), N0, e0⟩ (by decide) (by decide)
  have B3_10b (hF : f3_0 p0 p1 = f3_10b p0 p1) : own_Ends p e below s ({ frames := 0, cells := 0, slots := 0, locals := 0 } : Room).cells ({ frames := 0, cells := 0, slots := 0, locals := 0 } : Room).slots (Q3 Z p0 p1 h0 n0) (s₁.setTop (mkF m 10 #[.val (.int p0), .val (.int p1)] [(.int p0)])) := by
    show own_Ends p e below s _ _ _ (s₁.setTop (mkF m 10 #[.val (.int p0), .val (.int p1)] [(.int p0)]))
    exact own_retI X0 hx hlk hret (hb hby d3_10) ⟨congrArg (fun w => some (Value.int w)) (Eq.symm hF), N0, e0⟩ (by decide) (by decide)
  show own_Ends p e below s _ _ _ (s₁.setTop (mkF m 0 #[.val (.int p0), .val (.int p1)] []))
  refine own_step (fun t k => XS.iloadN X0.here hx rfl (hb hby d3_0) rfl k) ?_
  show own_Ends p e below s _ _ _ (s₁.setTop (mkF m 1 #[.val (.int p0), .val (.int p1)] [(.int p0)]))
  refine own_step (fun t k => XS.iloadN X0.here hx rfl (hb hby d3_1) rfl k) ?_
  show own_Ends p e below s _ _ _ (s₁.setTop (mkF m 2 #[.val (.int p0), .val (.int p1)] [(.int p1), (.int p0)]))
  by_cases hc2_1 : p0 < p1
  · -- p0 < p1
    refine own_step (fun t k => XS.icmpYes X0.here hx rfl (pc0 := 2) (pc' := 9) rfl (hb hby d3_2) rfl (tlt hc2_1).1 (by decide) (by decide) k) ?_
    show own_Ends p e below s _ _ _ (s₁.setTop (mkF m 9 #[.val (.int p0), .val (.int p1)] []))
    refine own_step (fun t k => XS.iloadN X0.here hx rfl (hb hby d3_9) rfl k) ?_
    show own_Ends p e below s _ _ _ (s₁.setTop (mkF m 10 #[.val (.int p0), .val (.int p1)] [(.int p1)]))
    exact B3_10 ((show f3_0 p0 p1 = _ from rfl).trans (if_pos hc2_1))
  · -- not p0 < p1
    refine own_step (fun t k => XS.icmpNo X0.here hx rfl (hb hby d3_2) rfl (flt hc2_1).1 k) ?_
    show own_Ends p e below s _ _ _ (s₁.setTop (mkF m 5 #[.val (.int p0), .val (.int p1)] []))
    refine own_step (fun t k => XS.iloadN X0.here hx rfl (hb hby d3_5) rfl k) ?_
    show own_Ends p e below s _ _ _ (s₁.setTop (mkF m 6 #[.val (.int p0), .val (.int p1)] [(.int p0)]))
    refine own_step (fun t k => XS.goto X0.here hx rfl (pc0 := 6) (pc' := 10) rfl (hb hby d3_6) (by decide) (by decide) k) ?_
    show own_Ends p e below s _ _ _ (s₁.setTop (mkF m 10 #[.val (.int p0), .val (.int p1)] [(.int p0)]))
    exact B3_10b ((show f3_0 p0 p1 = _ from rfl).trans (if_neg hc2_1))
theorem d4_0 : decode method_4_code 0 = .ok (.iload_n 2, 1) := by decide +kernel
theorem d4_1 : decode method_4_code 1 = .ok (.iload_n 3, 1) := by decide +kernel
theorem d4_2 : decode method_4_code 2 = .ok (.if_icmp .lt 5, 3) := by decide +kernel
theorem d4_5 : decode method_4_code 5 = .ok (.iconst 0, 1) := by decide +kernel
theorem d4_6 : decode method_4_code 6 = .ok (.ireturn, 1) := by decide +kernel
theorem d4_7 : decode method_4_code 7 = .ok (.lload_n 0, 1) := by decide +kernel
theorem d4_8 : decode method_4_code 8 = .ok (.bipush 7, 2) := by decide +kernel
theorem d4_10 : decode method_4_code 10 = .ok (.iload_n 2, 1) := by decide +kernel
theorem d4_11 : decode method_4_code 11 = .ok (.imul, 1) := by decide +kernel
theorem d4_12 : decode method_4_code 12 = .ok (.lushr, 1) := by decide +kernel
theorem d4_13 : decode method_4_code 13 = .ok (.ldc2_w 13, 3) := by decide +kernel
theorem d4_16 : decode method_4_code 16 = .ok (.land, 1) := by decide +kernel
theorem d4_17 : decode method_4_code 17 = .ok (.l2i, 1) := by decide +kernel
theorem d4_18 : decode method_4_code 18 = .ok (.istore 4, 2) := by decide +kernel
theorem d4_20 : decode method_4_code 20 = .ok (.iload_n 2, 1) := by decide +kernel
theorem d4_21 : decode method_4_code 21 = .ok (.iload_n 3, 1) := by decide +kernel
theorem d4_22 : decode method_4_code 22 = .ok (.iconst 1, 1) := by decide +kernel
theorem d4_23 : decode method_4_code 23 = .ok (.isub, 1) := by decide +kernel
theorem d4_24 : decode method_4_code 24 = .ok (.if_icmp .ge 12, 3) := by decide +kernel
theorem d4_27 : decode method_4_code 27 = .ok (.iload 4, 2) := by decide +kernel
theorem d4_29 : decode method_4_code 29 = .ok (.sipush 128, 3) := by decide +kernel
theorem d4_32 : decode method_4_code 32 = .ok (.ior, 1) := by decide +kernel
theorem d4_33 : decode method_4_code 33 = .ok (.goto 5, 3) := by decide +kernel
theorem d4_36 : decode method_4_code 36 = .ok (.iload 4, 2) := by decide +kernel
theorem d4_38 : decode method_4_code 38 = .ok (.i2b, 1) := by decide +kernel
theorem d4_39 : decode method_4_code 39 = .ok (.ireturn, 1) := by decide +kernel
theorem pn_4 : plainName "com/example/weftline/weftline/runner/BodyVarintPinLaw" = true := by first | (simp [plainName, overriddenIn]; done) | decide +kernel
theorem ef_4 (m : MethodId) (q0 : Int64) (p1 : Int32) (p2 : Int32) : entryFrame m #[(.long q0), (.int p1), (.int p2)] 5 = mkF m 0 #[.val (.long q0), .second, .val (.int p1), .val (.int p2), .unset] [] := by first | (simp [entryFrame, mkF, argsToLocals, Value.category]; done) | rfl
def f4_38 (q0 : Int64) (p1 : Int32) (p2 : Int32) : Int32 := (((((((q0.toUInt64 >>> (((7 : Int32) * p1) &&& 0x3f).toInt64.toUInt64).toInt64) &&& (127 : Int64)).toInt32) ||| (128 : Int32)).toInt8.toInt32)).toInt8.toInt32
def f4_38b (q0 : Int64) (p1 : Int32) (p2 : Int32) : Int32 := ((((((q0.toUInt64 >>> (((7 : Int32) * p1) &&& 0x3f).toInt64.toUInt64).toInt64) &&& (127 : Int64)).toInt32).toInt8.toInt32)).toInt8.toInt32
def f4_0 (q0 : Int64) (p1 : Int32) (p2 : Int32) : Int32 := (if p1 < p2 then (if p1 < (p2 - (1 : Int32)) then f4_38 q0 p1 p2 else f4_38b q0 p1 p2) else (0 : Int32))
def Q4 (Z : State) (q0 : Int64) (p1 : Int32) (p2 : Int32) (h0 : Heap) (n0 : Nat) (v : Option Value) (h : Heap) (L : List Loc) : Prop := v = some (.int (f4_0 q0 p1 p2)) ∧ Fr n0 L ∧ h = h0
set_option maxRecDepth 65536 in
set_option maxHeartbeats 40000000 in
theorem rm4 (l : Launch) (Z : State) (a0 : Array Value) (hw : ∀ d ∈ tables_1, d.before a0 Z = true) (ws : List Jvm.Cond) (q0 : Int64) (p1 : Int32) (p2 : Int32) (h0 : Heap) (n0 : Nat) :
    MetFree l (⟨"com/example/weftline/weftline/runner/BodyVarintPinLaw", "enc", "(JII)B"⟩ : MethodName) (head1 (Jvm.Cond.code (⟨"com/example/weftline/weftline/runner/BodyVarintPinLaw", "enc", "(JII)B"⟩ : MethodName) method_4_code 5 (some .byte) :: ws) ({ frames := 0, cells := 0, slots := 0, locals := 0 } : Room)) (fun a U => a = #[(.long q0), (.int p1), (.int p2)] ∧ Z.Warmed39 U.vm ∧ U.heap = h0) (fun _ _ _ _ _ => True) (fun _ U o U' => ∃ v L, o = .returned v ∧ (Q4 Z q0 p1 p2 h0 n0) v U'.heap L ∧ FrameEnd U o U' L ({ frames := 0, cells := 0, slots := 0, locals := 0 } : Room).cells ({ frames := 0, cells := 0, slots := 0, locals := 0 } : Room).slots) := by
  refine MetFree.of_bodySF (plainFor_of_name pn_4) hisR ?_
  intro p e s m args below meth c s₁ Bd hml0 hP hK
  obtain ⟨rfl, hZ, hh⟩ := hP
  have hx := Bd.exec
  have hby := Bd.bytes
  have hret := Bd.returns
  have hlk := BodyLoose.notSynchronized Bd
  have hml : c.maxLocals = 5 := hml0
  have hown : s.vm.findClass "com/example/weftline/weftline/runner/BodyVarintPinLaw" = some m.cls := findClass_of_methodNamed Bd.named
  have hnm := (name_of_methodNamed Bd.named Bd.method).1
  have X0 : Stand p l e ({ frames := 0, cells := 0, slots := 0, locals := 0 } : Room) s m #[(.long q0), (.int p1), (.int p2)] below meth c s₁ [] 0 0 := Stand.of_body Bd
  have e0 : s₁.heap = h0 := by rw [← hh, Bd.state]; rfl
  have N0 := Fr.nil n0
  show own_Ends p e below s ({ frames := 0, cells := 0, slots := 0, locals := 0 } : Room).cells ({ frames := 0, cells := 0, slots := 0, locals := 0 } : Room).slots (Q4 Z q0 p1 p2 h0 n0) (s₁.setTop (entryFrame m #[(.long q0), (.int p1), (.int p2)] 5))
  refine own_cast (ef_4 m q0 p1 p2) ?_
  have B4_38 (hF : f4_0 q0 p1 p2 = f4_38 q0 p1 p2) : own_Ends p e below s ({ frames := 0, cells := 0, slots := 0, locals := 0 } : Room).cells ({ frames := 0, cells := 0, slots := 0, locals := 0 } : Room).slots (Q4 Z q0 p1 p2 h0 n0) (s₁.setTop (mkF m 38 #[.val (.long q0), .second, .val (.int p1), .val (.int p2), .val (.int ((((q0.toUInt64 >>> (((7 : Int32) * p1) &&& 0x3f).toInt64.toUInt64).toInt64) &&& (127 : Int64)).toInt32))] [(.int (((((q0.toUInt64 >>> (((7 : Int32) * p1) &&& 0x3f).toInt64.toUInt64).toInt64) &&& (127 : Int64)).toInt32) ||| (128 : Int32)))])) := by
    show own_Ends p e below s _ _ _ (s₁.setTop (mkF m 38 #[.val (.long q0), .second, .val (.int p1), .val (.int p2), .val (.int ((((q0.toUInt64 >>> (((7 : Int32) * p1) &&& 0x3f).toInt64.toUInt64).toInt64) &&& (127 : Int64)).toInt32))] [(.int (((((q0.toUInt64 >>> (((7 : Int32) * p1) &&& 0x3f).toInt64.toUInt64).toInt64) &&& (127 : Int64)).toInt32) ||| (128 : Int32)))]))
    refine own_step (fun t k => XS.i2b X0.here hx rfl (hb hby d4_38) rfl k) ?_
    show own_Ends p e below s _ _ _ (s₁.setTop (mkF m 39 #[.val (.long q0), .second, .val (.int p1), .val (.int p2), .val (.int ((((q0.toUInt64 >>> (((7 : Int32) * p1) &&& 0x3f).toInt64.toUInt64).toInt64) &&& (127 : Int64)).toInt32))] [(.int ((((((q0.toUInt64 >>> (((7 : Int32) * p1) &&& 0x3f).toInt64.toUInt64).toInt64) &&& (127 : Int64)).toInt32) ||| (128 : Int32)).toInt8.toInt32))]))
    exact own_retN X0 hx hlk (t := .byte) hret (by simp) (hb hby d4_39) (w := (((((((q0.toUInt64 >>> (((7 : Int32) * p1) &&& 0x3f).toInt64.toUInt64).toInt64) &&& (127 : Int64)).toInt32) ||| (128 : Int32)).toInt8.toInt32)).toInt8.toInt32) rfl ⟨congrArg (fun w => some (Value.int w)) (Eq.symm hF), N0, e0⟩ (by decide) (by decide)
  have B4_38b (hF : f4_0 q0 p1 p2 = f4_38b q0 p1 p2) : own_Ends p e below s ({ frames := 0, cells := 0, slots := 0, locals := 0 } : Room).cells ({ frames := 0, cells := 0, slots := 0, locals := 0 } : Room).slots (Q4 Z q0 p1 p2 h0 n0) (s₁.setTop (mkF m 38 #[.val (.long q0), .second, .val (.int p1), .val (.int p2), .val (.int ((((q0.toUInt64 >>> (((7 : Int32) * p1) &&& 0x3f).toInt64.toUInt64).toInt64) &&& (127 : Int64)).toInt32))] [(.int ((((q0.toUInt64 >>> (((7 : Int32) * p1) &&& 0x3f).toInt64.toUInt64).toInt64) &&& (127 : Int64)).toInt32))])) := by
    show own_Ends p e below s _ _ _ (s₁.setTop (mkF m 38 #[.val (.long q0), .second, .val (.int p1), .val (.int p2), .val (.int ((((q0.toUInt64 >>> (((7 : Int32) * p1) &&& 0x3f).toInt64.toUInt64).toInt64) &&& (127 : Int64)).toInt32))] [(.int ((((q0.toUInt64 >>> (((7 : Int32) * p1) &&& 0x3f).toInt64.toUInt64).toInt64) &&& (127 : Int64)).toInt32))]))
    refine own_step (fun t k => XS.i2b X0.here hx rfl (hb hby d4_38) rfl k) ?_
    show own_Ends p e below s _ _ _ (s₁.setTop (mkF m 39 #[.val (.long q0), .second, .val (.int p1), .val (.int p2), .val (.int ((((q0.toUInt64 >>> (((7 : Int32) * p1) &&& 0x3f).toInt64.toUInt64).toInt64) &&& (127 : Int64)).toInt32))] [(.int (((((q0.toUInt64 >>> (((7 : Int32) * p1) &&& 0x3f).toInt64.toUInt64).toInt64) &&& (127 : Int64)).toInt32).toInt8.toInt32))]))
    exact own_retN X0 hx hlk (t := .byte) hret (by simp) (hb hby d4_39) (w := ((((((q0.toUInt64 >>> (((7 : Int32) * p1) &&& 0x3f).toInt64.toUInt64).toInt64) &&& (127 : Int64)).toInt32).toInt8.toInt32)).toInt8.toInt32) rfl ⟨congrArg (fun w => some (Value.int w)) (Eq.symm hF), N0, e0⟩ (by decide) (by decide)
  show own_Ends p e below s _ _ _ (s₁.setTop (mkF m 0 #[.val (.long q0), .second, .val (.int p1), .val (.int p2), .unset] []))
  refine own_step (fun t k => XS.iloadN X0.here hx rfl (hb hby d4_0) rfl k) ?_
  show own_Ends p e below s _ _ _ (s₁.setTop (mkF m 1 #[.val (.long q0), .second, .val (.int p1), .val (.int p2), .unset] [(.int p1)]))
  refine own_step (fun t k => XS.iloadN X0.here hx rfl (hb hby d4_1) rfl k) ?_
  show own_Ends p e below s _ _ _ (s₁.setTop (mkF m 2 #[.val (.long q0), .second, .val (.int p1), .val (.int p2), .unset] [(.int p2), (.int p1)]))
  by_cases hc2_1 : p1 < p2
  · -- p1 < p2
    refine own_step (fun t k => XS.icmpYes X0.here hx rfl (pc0 := 2) (pc' := 7) rfl (hb hby d4_2) rfl (tlt hc2_1).1 (by decide) (by decide) k) ?_
    show own_Ends p e below s _ _ _ (s₁.setTop (mkF m 7 #[.val (.long q0), .second, .val (.int p1), .val (.int p2), .unset] []))
    refine own_step (fun t k => XS.lloadN X0.here hx rfl (hb hby d4_7) rfl k) ?_
    show own_Ends p e below s _ _ _ (s₁.setTop (mkF m 8 #[.val (.long q0), .second, .val (.int p1), .val (.int p2), .unset] [(.long q0)]))
    refine own_step (fun t k => XS.bipush X0.here hx rfl (hb hby d4_8) k) ?_
    show own_Ends p e below s _ _ _ (s₁.setTop (mkF m 10 #[.val (.long q0), .second, .val (.int p1), .val (.int p2), .unset] [(.int (7 : Int32)), (.long q0)]))
    refine own_step (fun t k => XS.iloadN X0.here hx rfl (hb hby d4_10) rfl k) ?_
    show own_Ends p e below s _ _ _ (s₁.setTop (mkF m 11 #[.val (.long q0), .second, .val (.int p1), .val (.int p2), .unset] [(.int p1), (.int (7 : Int32)), (.long q0)]))
    refine own_step (fun t k => XS.imul X0.here hx rfl (hb hby d4_11) rfl k) ?_
    show own_Ends p e below s _ _ _ (s₁.setTop (mkF m 12 #[.val (.long q0), .second, .val (.int p1), .val (.int p2), .unset] [(.int ((7 : Int32) * p1)), (.long q0)]))
    refine own_step (fun t k => XS.lushr X0.here hx rfl (hb hby d4_12) rfl k) ?_
    show own_Ends p e below s _ _ _ (s₁.setTop (mkF m 13 #[.val (.long q0), .second, .val (.int p1), .val (.int p2), .unset] [(.long ((q0.toUInt64 >>> (((7 : Int32) * p1) &&& 0x3f).toInt64.toUInt64).toInt64))]))
    refine own_step (fun t k => X0.ldc2Long hx hown (mvT hZ (hw _ (List.mem_of_getElem? (i := 16) rfl))) (g := (mkF m 13 #[.val (.long q0), .second, .val (.int p1), .val (.int p2), .unset] [(.long ((q0.toUInt64 >>> (((7 : Int32) * p1) &&& 0x3f).toInt64.toUInt64).toInt64))])) rfl (hb hby d4_13) t k) ?_
    show own_Ends p e below s _ _ _ (s₁.setTop (mkF m 16 #[.val (.long q0), .second, .val (.int p1), .val (.int p2), .unset] [(.long (127 : Int64)), (.long ((q0.toUInt64 >>> (((7 : Int32) * p1) &&& 0x3f).toInt64.toUInt64).toInt64))]))
    refine own_step (fun t k => XS.land X0.here hx rfl (hb hby d4_16) rfl k) ?_
    show own_Ends p e below s _ _ _ (s₁.setTop (mkF m 17 #[.val (.long q0), .second, .val (.int p1), .val (.int p2), .unset] [(.long (((q0.toUInt64 >>> (((7 : Int32) * p1) &&& 0x3f).toInt64.toUInt64).toInt64) &&& (127 : Int64)))]))
    refine own_step (fun t k => XS.l2i X0.here hx rfl (hb hby d4_17) rfl k) ?_
    show own_Ends p e below s _ _ _ (s₁.setTop (mkF m 18 #[.val (.long q0), .second, .val (.int p1), .val (.int p2), .unset] [(.int ((((q0.toUInt64 >>> (((7 : Int32) * p1) &&& 0x3f).toInt64.toUInt64).toInt64) &&& (127 : Int64)).toInt32))]))
    refine own_step (fun t k => XS.istore X0.here hx rfl (hb hby d4_18) rfl (l' := #[.val (.long q0), .second, .val (.int p1), .val (.int p2), .val (.int ((((q0.toUInt64 >>> (((7 : Int32) * p1) &&& 0x3f).toInt64.toUInt64).toInt64) &&& (127 : Int64)).toInt32))]) rfl k) ?_
    show own_Ends p e below s _ _ _ (s₁.setTop (mkF m 20 #[.val (.long q0), .second, .val (.int p1), .val (.int p2), .val (.int ((((q0.toUInt64 >>> (((7 : Int32) * p1) &&& 0x3f).toInt64.toUInt64).toInt64) &&& (127 : Int64)).toInt32))] []))
    refine own_step (fun t k => XS.iloadN X0.here hx rfl (hb hby d4_20) rfl k) ?_
    show own_Ends p e below s _ _ _ (s₁.setTop (mkF m 21 #[.val (.long q0), .second, .val (.int p1), .val (.int p2), .val (.int ((((q0.toUInt64 >>> (((7 : Int32) * p1) &&& 0x3f).toInt64.toUInt64).toInt64) &&& (127 : Int64)).toInt32))] [(.int p1)]))
    refine own_step (fun t k => XS.iloadN X0.here hx rfl (hb hby d4_21) rfl k) ?_
    show own_Ends p e below s _ _ _ (s₁.setTop (mkF m 22 #[.val (.long q0), .second, .val (.int p1), .val (.int p2), .val (.int ((((q0.toUInt64 >>> (((7 : Int32) * p1) &&& 0x3f).toInt64.toUInt64).toInt64) &&& (127 : Int64)).toInt32))] [(.int p2), (.int p1)]))
    refine own_step (fun t k => XS.iconst X0.here hx rfl (hb hby d4_22) k) ?_
    show own_Ends p e below s _ _ _ (s₁.setTop (mkF m 23 #[.val (.long q0), .second, .val (.int p1), .val (.int p2), .val (.int ((((q0.toUInt64 >>> (((7 : Int32) * p1) &&& 0x3f).toInt64.toUInt64).toInt64) &&& (127 : Int64)).toInt32))] [(.int (1 : Int32)), (.int p2), (.int p1)]))
    refine own_step (fun t k => XS.isub X0.here hx rfl (hb hby d4_23) rfl k) ?_
    show own_Ends p e below s _ _ _ (s₁.setTop (mkF m 24 #[.val (.long q0), .second, .val (.int p1), .val (.int p2), .val (.int ((((q0.toUInt64 >>> (((7 : Int32) * p1) &&& 0x3f).toInt64.toUInt64).toInt64) &&& (127 : Int64)).toInt32))] [(.int (p2 - (1 : Int32))), (.int p1)]))
    by_cases hc24_2 : p1 < (p2 - (1 : Int32))
    · -- p1 < (p2 - (1 : Int32))
      refine own_step (fun t k => XS.icmpNo X0.here hx rfl (hb hby d4_24) rfl (tlt hc24_2).2.1 k) ?_
      show own_Ends p e below s _ _ _ (s₁.setTop (mkF m 27 #[.val (.long q0), .second, .val (.int p1), .val (.int p2), .val (.int ((((q0.toUInt64 >>> (((7 : Int32) * p1) &&& 0x3f).toInt64.toUInt64).toInt64) &&& (127 : Int64)).toInt32))] []))
      refine own_step (fun t k => XS.iload X0.here hx rfl (hb hby d4_27) rfl k) ?_
      show own_Ends p e below s _ _ _ (s₁.setTop (mkF m 29 #[.val (.long q0), .second, .val (.int p1), .val (.int p2), .val (.int ((((q0.toUInt64 >>> (((7 : Int32) * p1) &&& 0x3f).toInt64.toUInt64).toInt64) &&& (127 : Int64)).toInt32))] [(.int ((((q0.toUInt64 >>> (((7 : Int32) * p1) &&& 0x3f).toInt64.toUInt64).toInt64) &&& (127 : Int64)).toInt32))]))
      refine own_step (fun t k => XS.sipush X0.here hx rfl (hb hby d4_29) k) ?_
      show own_Ends p e below s _ _ _ (s₁.setTop (mkF m 32 #[.val (.long q0), .second, .val (.int p1), .val (.int p2), .val (.int ((((q0.toUInt64 >>> (((7 : Int32) * p1) &&& 0x3f).toInt64.toUInt64).toInt64) &&& (127 : Int64)).toInt32))] [(.int (128 : Int32)), (.int ((((q0.toUInt64 >>> (((7 : Int32) * p1) &&& 0x3f).toInt64.toUInt64).toInt64) &&& (127 : Int64)).toInt32))]))
      refine own_step (fun t k => XS.ior X0.here hx rfl (hb hby d4_32) rfl k) ?_
      show own_Ends p e below s _ _ _ (s₁.setTop (mkF m 33 #[.val (.long q0), .second, .val (.int p1), .val (.int p2), .val (.int ((((q0.toUInt64 >>> (((7 : Int32) * p1) &&& 0x3f).toInt64.toUInt64).toInt64) &&& (127 : Int64)).toInt32))] [(.int (((((q0.toUInt64 >>> (((7 : Int32) * p1) &&& 0x3f).toInt64.toUInt64).toInt64) &&& (127 : Int64)).toInt32) ||| (128 : Int32)))]))
      refine own_step (fun t k => XS.goto X0.here hx rfl (pc0 := 33) (pc' := 38) rfl (hb hby d4_33) (by decide) (by decide) k) ?_
      show own_Ends p e below s _ _ _ (s₁.setTop (mkF m 38 #[.val (.long q0), .second, .val (.int p1), .val (.int p2), .val (.int ((((q0.toUInt64 >>> (((7 : Int32) * p1) &&& 0x3f).toInt64.toUInt64).toInt64) &&& (127 : Int64)).toInt32))] [(.int (((((q0.toUInt64 >>> (((7 : Int32) * p1) &&& 0x3f).toInt64.toUInt64).toInt64) &&& (127 : Int64)).toInt32) ||| (128 : Int32)))]))
      exact B4_38 (((show f4_0 q0 p1 p2 = _ from rfl).trans (if_pos hc2_1)).trans (if_pos hc24_2))
    · -- not p1 < (p2 - (1 : Int32))
      refine own_step (fun t k => XS.icmpYes X0.here hx rfl (pc0 := 24) (pc' := 36) rfl (hb hby d4_24) rfl (flt hc24_2).2.1 (by decide) (by decide) k) ?_
      show own_Ends p e below s _ _ _ (s₁.setTop (mkF m 36 #[.val (.long q0), .second, .val (.int p1), .val (.int p2), .val (.int ((((q0.toUInt64 >>> (((7 : Int32) * p1) &&& 0x3f).toInt64.toUInt64).toInt64) &&& (127 : Int64)).toInt32))] []))
      refine own_step (fun t k => XS.iload X0.here hx rfl (hb hby d4_36) rfl k) ?_
      show own_Ends p e below s _ _ _ (s₁.setTop (mkF m 38 #[.val (.long q0), .second, .val (.int p1), .val (.int p2), .val (.int ((((q0.toUInt64 >>> (((7 : Int32) * p1) &&& 0x3f).toInt64.toUInt64).toInt64) &&& (127 : Int64)).toInt32))] [(.int ((((q0.toUInt64 >>> (((7 : Int32) * p1) &&& 0x3f).toInt64.toUInt64).toInt64) &&& (127 : Int64)).toInt32))]))
      exact B4_38b (((show f4_0 q0 p1 p2 = _ from rfl).trans (if_pos hc2_1)).trans (if_neg hc24_2))
  · -- not p1 < p2
    refine own_step (fun t k => XS.icmpNo X0.here hx rfl (hb hby d4_2) rfl (flt hc2_1).1 k) ?_
    show own_Ends p e below s _ _ _ (s₁.setTop (mkF m 5 #[.val (.long q0), .second, .val (.int p1), .val (.int p2), .unset] []))
    refine own_step (fun t k => XS.iconst X0.here hx rfl (hb hby d4_5) k) ?_
    show own_Ends p e below s _ _ _ (s₁.setTop (mkF m 6 #[.val (.long q0), .second, .val (.int p1), .val (.int p2), .unset] [(.int (0 : Int32))]))
    exact own_retN X0 hx hlk (t := .byte) hret (by simp) (hb hby d4_6) (w := (0 : Int32)) (by decide) ⟨congrArg (fun w => some (Value.int w)) (Eq.symm ((show f4_0 q0 p1 p2 = _ from rfl).trans (if_neg hc2_1))), N0, e0⟩ (by decide) (by decide)
theorem own_congrI {Z : State} {h : Heap} {a : Addr} {ty : FieldType} {n : Nat} {f g : Nat → Int32} (A : own_AI Z h a ty n f) (q : ∀ k, k < n → f k = g k) : own_AI Z h a ty n g := by
  obtain ⟨c, A1, A2, A3⟩ := A
  exact ⟨c, A1, A2, fun k hk => by rw [A3 k hk]; exact congrArg (fun w => some (Value.int w)) (q k hk)⟩
def own_by (v : Int64) (k s : Int32) (K i : Nat) : Int32 := if i = K then (s.toInt8.toInt32).toInt8.toInt32 else if i < 10 then (f4_0 v (Int32.ofNat i) k).toInt8.toInt32 else 0
theorem own_s {a ss : Int32} (h : (a &&& (127 : Int32)) = ss) : 0 ≤ ss.toInt ∧ ss.toInt < 128 := by
  have e := c_mask a 127 7 (by decide) (by decide)
  rw [h] at e
  omega
theorem own_nz (q : Int64) (s : Int32) (k : Nat) (B : Int) (hk : s.toBitVec.toNat % 64 = k) (h0 : 0 < k) (hB : ((2 ^ k : Nat) : Int) = B) (hp : 0 < B) : (q.toInt % 18446744073709551616 < B ∧ (f2_0 q s).toInt = 0) ∨ (B ≤ q.toInt % 18446744073709551616 ∧ (f2_0 q s).toInt = 1) := by
  have e := c_lushr q s k hk h0
  rw [hB] at e
  have hN : 0 ≤ q.toInt % 18446744073709551616 := by omega
  unfold f2_0
  by_cases z : ((q.toUInt64 >>> (s &&& 0x3f).toInt64.toUInt64).toInt64) = (0 : Int64)
  · left
    rw [if_pos z]
    rw [z] at e
    have z0 : (0 : Int64).toInt = 0 := by decide
    rw [z0] at e
    have l := Int.lt_ediv_add_one_mul_self (q.toInt % 18446744073709551616) hp
    rw [← e] at l
    exact ⟨by omega, (show (0 : Int32).toInt = 0 by decide)⟩
  · right
    rw [if_neg z]
    refine ⟨?_, (show (1 : Int32).toInt = 1 by decide)⟩
    rcases Int.lt_or_le (q.toInt % 18446744073709551616) B with l | l
    · have d := Int.ediv_eq_zero_of_lt hN l
      rw [d] at e
      exact absurd (Int64.toInt_inj.mp (e.trans (by decide : (0 : Int) = (0 : Int64).toInt))) z
    · exact l
theorem own_add1 {t b : Int32} {x : Int} (ht : t.toInt = x) (hx : 0 ≤ x ∧ x ≤ 100) (hb : 0 ≤ b.toInt ∧ b.toInt ≤ 1) : (t + b).toInt = x + b.toInt := by
  have a := c_iadd t b
  have r := rng32 (t + b)
  omega
theorem own_ml (q : Int64) : ∃ K : Nat, (f1_0 q).toInt = (K : Int) ∧ 1 ≤ K ∧ K ≤ 10 ∧ q.toInt % 18446744073709551616 < ((2 ^ (7 * K) : Nat) : Int) := by
  have h1 := own_nz q (7 : Int32) 7 128 (by decide) (by decide) (by decide) (by decide)
  have h2 := own_nz q (14 : Int32) 14 16384 (by decide) (by decide) (by decide) (by decide)
  have h3 := own_nz q (21 : Int32) 21 2097152 (by decide) (by decide) (by decide) (by decide)
  have h4 := own_nz q (28 : Int32) 28 268435456 (by decide) (by decide) (by decide) (by decide)
  have h5 := own_nz q (35 : Int32) 35 34359738368 (by decide) (by decide) (by decide) (by decide)
  have h6 := own_nz q (42 : Int32) 42 4398046511104 (by decide) (by decide) (by decide) (by decide)
  have h7 := own_nz q (49 : Int32) 49 562949953421312 (by decide) (by decide) (by decide) (by decide)
  have h8 := own_nz q (56 : Int32) 56 72057594037927936 (by decide) (by decide) (by decide) (by decide)
  have h9 := own_nz q (63 : Int32) 63 9223372036854775808 (by decide) (by decide) (by decide) (by decide)
  have hN : 0 ≤ q.toInt % 18446744073709551616 ∧ q.toInt % 18446744073709551616 < 18446744073709551616 := by omega
  unfold f1_0
  generalize q.toInt % 18446744073709551616 = N at *
  have s1 := own_add1 (b := f2_0 q (7 : Int32)) (show (1 : Int32).toInt = 1 by decide) (by omega) (by omega)
  have s2 := own_add1 (b := f2_0 q (14 : Int32)) s1 (by omega) (by omega)
  have s3 := own_add1 (b := f2_0 q (21 : Int32)) s2 (by omega) (by omega)
  have s4 := own_add1 (b := f2_0 q (28 : Int32)) s3 (by omega) (by omega)
  have s5 := own_add1 (b := f2_0 q (35 : Int32)) s4 (by omega) (by omega)
  have s6 := own_add1 (b := f2_0 q (42 : Int32)) s5 (by omega) (by omega)
  have s7 := own_add1 (b := f2_0 q (49 : Int32)) s6 (by omega) (by omega)
  have s8 := own_add1 (b := f2_0 q (56 : Int32)) s7 (by omega) (by omega)
  have s9 := own_add1 (b := f2_0 q (63 : Int32)) s8 (by omega) (by omega)
  rw [s9]
  generalize (f2_0 q (7 : Int32)).toInt = b1 at *
  generalize (f2_0 q (14 : Int32)).toInt = b2 at *
  generalize (f2_0 q (21 : Int32)).toInt = b3 at *
  generalize (f2_0 q (28 : Int32)).toInt = b4 at *
  generalize (f2_0 q (35 : Int32)).toInt = b5 at *
  generalize (f2_0 q (42 : Int32)).toInt = b6 at *
  generalize (f2_0 q (49 : Int32)).toInt = b7 at *
  generalize (f2_0 q (56 : Int32)).toInt = b8 at *
  generalize (f2_0 q (63 : Int32)).toInt = b9 at *
  clear s1 s2 s3 s4 s5 s6 s7 s8 s9
  by_cases c1 : N < 128
  · exact ⟨1, by omega, by omega, by omega, by rw [show ((2 ^ (7 * 1) : Nat) : Int) = 128 by decide]; omega⟩
  by_cases c2 : N < 16384
  · exact ⟨2, by omega, by omega, by omega, by rw [show ((2 ^ (7 * 2) : Nat) : Int) = 16384 by decide]; omega⟩
  by_cases c3 : N < 2097152
  · exact ⟨3, by omega, by omega, by omega, by rw [show ((2 ^ (7 * 3) : Nat) : Int) = 2097152 by decide]; omega⟩
  by_cases c4 : N < 268435456
  · exact ⟨4, by omega, by omega, by omega, by rw [show ((2 ^ (7 * 4) : Nat) : Int) = 268435456 by decide]; omega⟩
  by_cases c5 : N < 34359738368
  · exact ⟨5, by omega, by omega, by omega, by rw [show ((2 ^ (7 * 5) : Nat) : Int) = 34359738368 by decide]; omega⟩
  by_cases c6 : N < 4398046511104
  · exact ⟨6, by omega, by omega, by omega, by rw [show ((2 ^ (7 * 6) : Nat) : Int) = 4398046511104 by decide]; omega⟩
  by_cases c7 : N < 562949953421312
  · exact ⟨7, by omega, by omega, by omega, by rw [show ((2 ^ (7 * 7) : Nat) : Int) = 562949953421312 by decide]; omega⟩
  by_cases c8 : N < 72057594037927936
  · exact ⟨8, by omega, by omega, by omega, by rw [show ((2 ^ (7 * 8) : Nat) : Int) = 72057594037927936 by decide]; omega⟩
  by_cases c9 : N < 9223372036854775808
  · exact ⟨9, by omega, by omega, by omega, by rw [show ((2 ^ (7 * 9) : Nat) : Int) = 9223372036854775808 by decide]; omega⟩
  exact ⟨10, by omega, by omega, by omega, by rw [show ((2 ^ (7 * 10) : Nat) : Int) = 1180591620717411303424 by decide]; omega⟩
theorem own_k {q : Int64} {a kk : Int32} (h : (f3_0 (f1_0 q) (((a &&& (2147483647 : Int32)) % (10 : Int32)) + (1 : Int32))) = kk) : ∃ K : Nat, kk.toInt = (K : Int) ∧ 1 ≤ K ∧ K ≤ 10 ∧ q.toInt % 18446744073709551616 < ((2 ^ (7 * K) : Nat) : Int) := by
  obtain ⟨K0, e0, e1, e2, e3⟩ := own_ml q
  have m1 := c_mask a 2147483647 31 (by decide) (by decide)
  have m2 := (c_irem (a &&& (2147483647 : Int32)) (10 : Int32) 10 (by decide)).1
  have m3 := c_iadd ((a &&& (2147483647 : Int32)) % (10 : Int32)) 1
  have m4 := rng32 (((a &&& (2147483647 : Int32)) % (10 : Int32)) + 1)
  have z : (1 : Int32).toInt = 1 := by decide
  unfold f3_0 at h
  by_cases c : f1_0 q < (((a &&& (2147483647 : Int32)) % (10 : Int32)) + (1 : Int32))
  · rw [if_pos c] at h
    have h' : (((a &&& (2147483647 : Int32)) % (10 : Int32)) + (1 : Int32)) = kk := h
    rw [Int32.lt_iff_toInt_lt] at c
    rw [h'] at m3 m4 c
    refine ⟨kk.toInt.toNat, by omega, by omega, by omega, Int.lt_of_lt_of_le e3 (Int.ofNat_le.mpr (Nat.pow_le_pow_right (by decide) (by omega)))⟩
  · rw [if_neg c] at h
    have h' : f1_0 q = kk := h
    rw [← h']
    exact ⟨K0, e0, e1, e2, e3⟩
theorem own_low0 (v : Int64) : ((v.toUInt64 >>> (((7 : Int32) * Int32.ofNat 0) &&& 0x3f).toInt64.toUInt64).toInt64) = v := by
  have e : (((7 : Int32) * Int32.ofNat 0) &&& 0x3f).toInt64.toUInt64 = 0 := by decide
  rw [e]; simp
theorem own_hi128 (x : Int32) (h : 0 ≤ x.toInt ∧ x.toInt < 256) : (x &&& (128 : Int32)) = (0 : Int32) ↔ x.toInt < 128 := by
  have D : ∀ n : Fin 256, ((Int32.ofNat n.1) &&& (128 : Int32)) = (0 : Int32) ↔ n.1 < 128 := by decide +kernel
  have e : x = Int32.ofNat x.toInt.toNat := by
    apply Int32.toInt_inj.mp
    rw [Int32.toInt_ofNat_of_lt (by omega)]
    omega
  have d : ((Int32.ofNat x.toInt.toNat) &&& (128 : Int32)) = (0 : Int32) ↔ x.toInt.toNat < 128 := D ⟨x.toInt.toNat, by omega⟩
  rw [e]
  rw [Int32.toInt_ofNat_of_lt (by omega)]
  exact d.trans (by omega)
theorem own_b3 (x : Int32) : ((((x.toInt8.toInt32)).toInt8.toInt32).toInt8.toInt32 &&& (255 : Int32)).toInt = x.toInt % 256 := by
  have e0 := c_mask (((x.toInt8.toInt32)).toInt8.toInt32).toInt8.toInt32 255 8 (by decide) (by decide)
  have e1 := (c_i2b x).1
  have e2 := (c_i2b x.toInt8.toInt32).1
  have e3 := (c_i2b (x.toInt8.toInt32).toInt8.toInt32).1
  omega
theorem own_lo0 (v : Int64) : ((((((v.toUInt64 >>> (((7 : Int32) * Int32.ofNat 0) &&& 0x3f).toInt64.toUInt64).toInt64) &&& (127 : Int64)).toInt32))).toInt = (v.toInt % 18446744073709551616 / 1) % 128 := by
  have e1 := c_maskL ((v.toUInt64 >>> (((7 : Int32) * Int32.ofNat 0) &&& 0x3f).toInt64.toUInt64).toInt64) 127 7 (by decide) (by decide)
  have e2 := c_l2i (((v.toUInt64 >>> (((7 : Int32) * Int32.ofNat 0) &&& 0x3f).toInt64.toUInt64).toInt64) &&& (127 : Int64))
  have e3 := rng32 (((((v.toUInt64 >>> (((7 : Int32) * Int32.ofNat 0) &&& 0x3f).toInt64.toUInt64).toInt64) &&& (127 : Int64)).toInt32))
  have e4 := congrArg Int64.toInt (own_low0 v)
  omega
theorem own_byte0 {v : Int64} {kk ss : Int32} {K : Nat} (hK : kk.toInt = (K : Int)) (hK1 : 1 ≤ K) (hK10 : K ≤ 10) (hi : 0 < K) : ((own_by v kk ss K (0 + 0)) &&& (255 : Int32)).toInt = (v.toInt % 18446744073709551616 / 1) % 128 + (if 0 + 1 < K then 128 else 0) := by
  have l := own_lo0 v
  have o := c_or' (((((v.toUInt64 >>> (((7 : Int32) * Int32.ofNat 0) &&& 0x3f).toInt64.toUInt64).toInt64) &&& (127 : Int64)).toInt32)) 128 7 (by decide) 128 (by decide) (by decide) (by omega) (by omega)
  have r := rng32 ((((((v.toUInt64 >>> (((7 : Int32) * Int32.ofNat 0) &&& 0x3f).toInt64.toUInt64).toInt64) &&& (127 : Int64)).toInt32)) ||| (128 : Int32))
  have z : (128 : Int32).toInt = 128 := by decide
  have z1 : (1 : Int32).toInt = 1 := by decide
  have ms := c_isub kk 1
  have mr := rng32 (kk - 1)
  have zi : (Int32.ofNat 0).toInt = 0 := by decide
  have c1 : Int32.ofNat 0 < kk := by rw [Int32.lt_iff_toInt_lt]; omega
  have eb : own_by v kk ss K (0 + 0) = (f4_0 v (Int32.ofNat 0) kk).toInt8.toInt32 := (if_neg (show ¬ (0 + 0 = K) by omega)).trans (if_pos (show 0 + 0 < 10 by decide))
  rw [eb]
  unfold f4_0
  rw [if_pos c1]
  by_cases c2 : Int32.ofNat 0 < (kk - (1 : Int32))
  · rw [if_pos c2]
    rw [Int32.lt_iff_toInt_lt] at c2
    have b := own_b3 ((((((v.toUInt64 >>> (((7 : Int32) * Int32.ofNat 0) &&& 0x3f).toInt64.toUInt64).toInt64) &&& (127 : Int64)).toInt32)) ||| (128 : Int32))
    rw [if_pos (by omega)]
    exact b.trans (by omega)
  · rw [if_neg c2]
    rw [Int32.lt_iff_toInt_lt] at c2
    have b := own_b3 (((((v.toUInt64 >>> (((7 : Int32) * Int32.ofNat 0) &&& 0x3f).toInt64.toUInt64).toInt64) &&& (127 : Int64)).toInt32))
    rw [if_neg (by omega)]
    exact b.trans (by omega)
theorem own_lo1 (v : Int64) : ((((((v.toUInt64 >>> (((7 : Int32) * Int32.ofNat 1) &&& 0x3f).toInt64.toUInt64).toInt64) &&& (127 : Int64)).toInt32))).toInt = (v.toInt % 18446744073709551616 / 128) % 128 := by
  have e1 := c_maskL ((v.toUInt64 >>> (((7 : Int32) * Int32.ofNat 1) &&& 0x3f).toInt64.toUInt64).toInt64) 127 7 (by decide) (by decide)
  have e2 := c_l2i (((v.toUInt64 >>> (((7 : Int32) * Int32.ofNat 1) &&& 0x3f).toInt64.toUInt64).toInt64) &&& (127 : Int64))
  have e3 := rng32 (((((v.toUInt64 >>> (((7 : Int32) * Int32.ofNat 1) &&& 0x3f).toInt64.toUInt64).toInt64) &&& (127 : Int64)).toInt32))
  have e4 := c_lushr v ((7 : Int32) * Int32.ofNat 1) 7 (by decide) (by decide)
  rw [show ((2 ^ 7 : Nat) : Int) = 128 by decide] at e4
  omega
theorem own_byte1 {v : Int64} {kk ss : Int32} {K : Nat} (hK : kk.toInt = (K : Int)) (hK1 : 1 ≤ K) (hK10 : K ≤ 10) (hi : 1 < K) : ((own_by v kk ss K (0 + 1)) &&& (255 : Int32)).toInt = (v.toInt % 18446744073709551616 / 128) % 128 + (if 1 + 1 < K then 128 else 0) := by
  have l := own_lo1 v
  have o := c_or' (((((v.toUInt64 >>> (((7 : Int32) * Int32.ofNat 1) &&& 0x3f).toInt64.toUInt64).toInt64) &&& (127 : Int64)).toInt32)) 128 7 (by decide) 128 (by decide) (by decide) (by omega) (by omega)
  have r := rng32 ((((((v.toUInt64 >>> (((7 : Int32) * Int32.ofNat 1) &&& 0x3f).toInt64.toUInt64).toInt64) &&& (127 : Int64)).toInt32)) ||| (128 : Int32))
  have z : (128 : Int32).toInt = 128 := by decide
  have z1 : (1 : Int32).toInt = 1 := by decide
  have ms := c_isub kk 1
  have mr := rng32 (kk - 1)
  have zi : (Int32.ofNat 1).toInt = 1 := by decide
  have c1 : Int32.ofNat 1 < kk := by rw [Int32.lt_iff_toInt_lt]; omega
  have eb : own_by v kk ss K (0 + 1) = (f4_0 v (Int32.ofNat 1) kk).toInt8.toInt32 := (if_neg (show ¬ (0 + 1 = K) by omega)).trans (if_pos (show 0 + 1 < 10 by decide))
  rw [eb]
  unfold f4_0
  rw [if_pos c1]
  by_cases c2 : Int32.ofNat 1 < (kk - (1 : Int32))
  · rw [if_pos c2]
    rw [Int32.lt_iff_toInt_lt] at c2
    have b := own_b3 ((((((v.toUInt64 >>> (((7 : Int32) * Int32.ofNat 1) &&& 0x3f).toInt64.toUInt64).toInt64) &&& (127 : Int64)).toInt32)) ||| (128 : Int32))
    rw [if_pos (by omega)]
    exact b.trans (by omega)
  · rw [if_neg c2]
    rw [Int32.lt_iff_toInt_lt] at c2
    have b := own_b3 (((((v.toUInt64 >>> (((7 : Int32) * Int32.ofNat 1) &&& 0x3f).toInt64.toUInt64).toInt64) &&& (127 : Int64)).toInt32))
    rw [if_neg (by omega)]
    exact b.trans (by omega)
theorem own_lo2 (v : Int64) : ((((((v.toUInt64 >>> (((7 : Int32) * Int32.ofNat 2) &&& 0x3f).toInt64.toUInt64).toInt64) &&& (127 : Int64)).toInt32))).toInt = (v.toInt % 18446744073709551616 / 16384) % 128 := by
  have e1 := c_maskL ((v.toUInt64 >>> (((7 : Int32) * Int32.ofNat 2) &&& 0x3f).toInt64.toUInt64).toInt64) 127 7 (by decide) (by decide)
  have e2 := c_l2i (((v.toUInt64 >>> (((7 : Int32) * Int32.ofNat 2) &&& 0x3f).toInt64.toUInt64).toInt64) &&& (127 : Int64))
  have e3 := rng32 (((((v.toUInt64 >>> (((7 : Int32) * Int32.ofNat 2) &&& 0x3f).toInt64.toUInt64).toInt64) &&& (127 : Int64)).toInt32))
  have e4 := c_lushr v ((7 : Int32) * Int32.ofNat 2) 14 (by decide) (by decide)
  rw [show ((2 ^ 14 : Nat) : Int) = 16384 by decide] at e4
  omega
theorem own_byte2 {v : Int64} {kk ss : Int32} {K : Nat} (hK : kk.toInt = (K : Int)) (hK1 : 1 ≤ K) (hK10 : K ≤ 10) (hi : 2 < K) : ((own_by v kk ss K (0 + 2)) &&& (255 : Int32)).toInt = (v.toInt % 18446744073709551616 / 16384) % 128 + (if 2 + 1 < K then 128 else 0) := by
  have l := own_lo2 v
  have o := c_or' (((((v.toUInt64 >>> (((7 : Int32) * Int32.ofNat 2) &&& 0x3f).toInt64.toUInt64).toInt64) &&& (127 : Int64)).toInt32)) 128 7 (by decide) 128 (by decide) (by decide) (by omega) (by omega)
  have r := rng32 ((((((v.toUInt64 >>> (((7 : Int32) * Int32.ofNat 2) &&& 0x3f).toInt64.toUInt64).toInt64) &&& (127 : Int64)).toInt32)) ||| (128 : Int32))
  have z : (128 : Int32).toInt = 128 := by decide
  have z1 : (1 : Int32).toInt = 1 := by decide
  have ms := c_isub kk 1
  have mr := rng32 (kk - 1)
  have zi : (Int32.ofNat 2).toInt = 2 := by decide
  have c1 : Int32.ofNat 2 < kk := by rw [Int32.lt_iff_toInt_lt]; omega
  have eb : own_by v kk ss K (0 + 2) = (f4_0 v (Int32.ofNat 2) kk).toInt8.toInt32 := (if_neg (show ¬ (0 + 2 = K) by omega)).trans (if_pos (show 0 + 2 < 10 by decide))
  rw [eb]
  unfold f4_0
  rw [if_pos c1]
  by_cases c2 : Int32.ofNat 2 < (kk - (1 : Int32))
  · rw [if_pos c2]
    rw [Int32.lt_iff_toInt_lt] at c2
    have b := own_b3 ((((((v.toUInt64 >>> (((7 : Int32) * Int32.ofNat 2) &&& 0x3f).toInt64.toUInt64).toInt64) &&& (127 : Int64)).toInt32)) ||| (128 : Int32))
    rw [if_pos (by omega)]
    exact b.trans (by omega)
  · rw [if_neg c2]
    rw [Int32.lt_iff_toInt_lt] at c2
    have b := own_b3 (((((v.toUInt64 >>> (((7 : Int32) * Int32.ofNat 2) &&& 0x3f).toInt64.toUInt64).toInt64) &&& (127 : Int64)).toInt32))
    rw [if_neg (by omega)]
    exact b.trans (by omega)
theorem own_lo3 (v : Int64) : ((((((v.toUInt64 >>> (((7 : Int32) * Int32.ofNat 3) &&& 0x3f).toInt64.toUInt64).toInt64) &&& (127 : Int64)).toInt32))).toInt = (v.toInt % 18446744073709551616 / 2097152) % 128 := by
  have e1 := c_maskL ((v.toUInt64 >>> (((7 : Int32) * Int32.ofNat 3) &&& 0x3f).toInt64.toUInt64).toInt64) 127 7 (by decide) (by decide)
  have e2 := c_l2i (((v.toUInt64 >>> (((7 : Int32) * Int32.ofNat 3) &&& 0x3f).toInt64.toUInt64).toInt64) &&& (127 : Int64))
  have e3 := rng32 (((((v.toUInt64 >>> (((7 : Int32) * Int32.ofNat 3) &&& 0x3f).toInt64.toUInt64).toInt64) &&& (127 : Int64)).toInt32))
  have e4 := c_lushr v ((7 : Int32) * Int32.ofNat 3) 21 (by decide) (by decide)
  rw [show ((2 ^ 21 : Nat) : Int) = 2097152 by decide] at e4
  omega
theorem own_byte3 {v : Int64} {kk ss : Int32} {K : Nat} (hK : kk.toInt = (K : Int)) (hK1 : 1 ≤ K) (hK10 : K ≤ 10) (hi : 3 < K) : ((own_by v kk ss K (0 + 3)) &&& (255 : Int32)).toInt = (v.toInt % 18446744073709551616 / 2097152) % 128 + (if 3 + 1 < K then 128 else 0) := by
  have l := own_lo3 v
  have o := c_or' (((((v.toUInt64 >>> (((7 : Int32) * Int32.ofNat 3) &&& 0x3f).toInt64.toUInt64).toInt64) &&& (127 : Int64)).toInt32)) 128 7 (by decide) 128 (by decide) (by decide) (by omega) (by omega)
  have r := rng32 ((((((v.toUInt64 >>> (((7 : Int32) * Int32.ofNat 3) &&& 0x3f).toInt64.toUInt64).toInt64) &&& (127 : Int64)).toInt32)) ||| (128 : Int32))
  have z : (128 : Int32).toInt = 128 := by decide
  have z1 : (1 : Int32).toInt = 1 := by decide
  have ms := c_isub kk 1
  have mr := rng32 (kk - 1)
  have zi : (Int32.ofNat 3).toInt = 3 := by decide
  have c1 : Int32.ofNat 3 < kk := by rw [Int32.lt_iff_toInt_lt]; omega
  have eb : own_by v kk ss K (0 + 3) = (f4_0 v (Int32.ofNat 3) kk).toInt8.toInt32 := (if_neg (show ¬ (0 + 3 = K) by omega)).trans (if_pos (show 0 + 3 < 10 by decide))
  rw [eb]
  unfold f4_0
  rw [if_pos c1]
  by_cases c2 : Int32.ofNat 3 < (kk - (1 : Int32))
  · rw [if_pos c2]
    rw [Int32.lt_iff_toInt_lt] at c2
    have b := own_b3 ((((((v.toUInt64 >>> (((7 : Int32) * Int32.ofNat 3) &&& 0x3f).toInt64.toUInt64).toInt64) &&& (127 : Int64)).toInt32)) ||| (128 : Int32))
    rw [if_pos (by omega)]
    exact b.trans (by omega)
  · rw [if_neg c2]
    rw [Int32.lt_iff_toInt_lt] at c2
    have b := own_b3 (((((v.toUInt64 >>> (((7 : Int32) * Int32.ofNat 3) &&& 0x3f).toInt64.toUInt64).toInt64) &&& (127 : Int64)).toInt32))
    rw [if_neg (by omega)]
    exact b.trans (by omega)
theorem own_lo4 (v : Int64) : ((((((v.toUInt64 >>> (((7 : Int32) * Int32.ofNat 4) &&& 0x3f).toInt64.toUInt64).toInt64) &&& (127 : Int64)).toInt32))).toInt = (v.toInt % 18446744073709551616 / 268435456) % 128 := by
  have e1 := c_maskL ((v.toUInt64 >>> (((7 : Int32) * Int32.ofNat 4) &&& 0x3f).toInt64.toUInt64).toInt64) 127 7 (by decide) (by decide)
  have e2 := c_l2i (((v.toUInt64 >>> (((7 : Int32) * Int32.ofNat 4) &&& 0x3f).toInt64.toUInt64).toInt64) &&& (127 : Int64))
  have e3 := rng32 (((((v.toUInt64 >>> (((7 : Int32) * Int32.ofNat 4) &&& 0x3f).toInt64.toUInt64).toInt64) &&& (127 : Int64)).toInt32))
  have e4 := c_lushr v ((7 : Int32) * Int32.ofNat 4) 28 (by decide) (by decide)
  rw [show ((2 ^ 28 : Nat) : Int) = 268435456 by decide] at e4
  omega
theorem own_byte4 {v : Int64} {kk ss : Int32} {K : Nat} (hK : kk.toInt = (K : Int)) (hK1 : 1 ≤ K) (hK10 : K ≤ 10) (hi : 4 < K) : ((own_by v kk ss K (0 + 4)) &&& (255 : Int32)).toInt = (v.toInt % 18446744073709551616 / 268435456) % 128 + (if 4 + 1 < K then 128 else 0) := by
  have l := own_lo4 v
  have o := c_or' (((((v.toUInt64 >>> (((7 : Int32) * Int32.ofNat 4) &&& 0x3f).toInt64.toUInt64).toInt64) &&& (127 : Int64)).toInt32)) 128 7 (by decide) 128 (by decide) (by decide) (by omega) (by omega)
  have r := rng32 ((((((v.toUInt64 >>> (((7 : Int32) * Int32.ofNat 4) &&& 0x3f).toInt64.toUInt64).toInt64) &&& (127 : Int64)).toInt32)) ||| (128 : Int32))
  have z : (128 : Int32).toInt = 128 := by decide
  have z1 : (1 : Int32).toInt = 1 := by decide
  have ms := c_isub kk 1
  have mr := rng32 (kk - 1)
  have zi : (Int32.ofNat 4).toInt = 4 := by decide
  have c1 : Int32.ofNat 4 < kk := by rw [Int32.lt_iff_toInt_lt]; omega
  have eb : own_by v kk ss K (0 + 4) = (f4_0 v (Int32.ofNat 4) kk).toInt8.toInt32 := (if_neg (show ¬ (0 + 4 = K) by omega)).trans (if_pos (show 0 + 4 < 10 by decide))
  rw [eb]
  unfold f4_0
  rw [if_pos c1]
  by_cases c2 : Int32.ofNat 4 < (kk - (1 : Int32))
  · rw [if_pos c2]
    rw [Int32.lt_iff_toInt_lt] at c2
    have b := own_b3 ((((((v.toUInt64 >>> (((7 : Int32) * Int32.ofNat 4) &&& 0x3f).toInt64.toUInt64).toInt64) &&& (127 : Int64)).toInt32)) ||| (128 : Int32))
    rw [if_pos (by omega)]
    exact b.trans (by omega)
  · rw [if_neg c2]
    rw [Int32.lt_iff_toInt_lt] at c2
    have b := own_b3 (((((v.toUInt64 >>> (((7 : Int32) * Int32.ofNat 4) &&& 0x3f).toInt64.toUInt64).toInt64) &&& (127 : Int64)).toInt32))
    rw [if_neg (by omega)]
    exact b.trans (by omega)
theorem own_lo5 (v : Int64) : ((((((v.toUInt64 >>> (((7 : Int32) * Int32.ofNat 5) &&& 0x3f).toInt64.toUInt64).toInt64) &&& (127 : Int64)).toInt32))).toInt = (v.toInt % 18446744073709551616 / 34359738368) % 128 := by
  have e1 := c_maskL ((v.toUInt64 >>> (((7 : Int32) * Int32.ofNat 5) &&& 0x3f).toInt64.toUInt64).toInt64) 127 7 (by decide) (by decide)
  have e2 := c_l2i (((v.toUInt64 >>> (((7 : Int32) * Int32.ofNat 5) &&& 0x3f).toInt64.toUInt64).toInt64) &&& (127 : Int64))
  have e3 := rng32 (((((v.toUInt64 >>> (((7 : Int32) * Int32.ofNat 5) &&& 0x3f).toInt64.toUInt64).toInt64) &&& (127 : Int64)).toInt32))
  have e4 := c_lushr v ((7 : Int32) * Int32.ofNat 5) 35 (by decide) (by decide)
  rw [show ((2 ^ 35 : Nat) : Int) = 34359738368 by decide] at e4
  omega
theorem own_byte5 {v : Int64} {kk ss : Int32} {K : Nat} (hK : kk.toInt = (K : Int)) (hK1 : 1 ≤ K) (hK10 : K ≤ 10) (hi : 5 < K) : ((own_by v kk ss K (0 + 5)) &&& (255 : Int32)).toInt = (v.toInt % 18446744073709551616 / 34359738368) % 128 + (if 5 + 1 < K then 128 else 0) := by
  have l := own_lo5 v
  have o := c_or' (((((v.toUInt64 >>> (((7 : Int32) * Int32.ofNat 5) &&& 0x3f).toInt64.toUInt64).toInt64) &&& (127 : Int64)).toInt32)) 128 7 (by decide) 128 (by decide) (by decide) (by omega) (by omega)
  have r := rng32 ((((((v.toUInt64 >>> (((7 : Int32) * Int32.ofNat 5) &&& 0x3f).toInt64.toUInt64).toInt64) &&& (127 : Int64)).toInt32)) ||| (128 : Int32))
  have z : (128 : Int32).toInt = 128 := by decide
  have z1 : (1 : Int32).toInt = 1 := by decide
  have ms := c_isub kk 1
  have mr := rng32 (kk - 1)
  have zi : (Int32.ofNat 5).toInt = 5 := by decide
  have c1 : Int32.ofNat 5 < kk := by rw [Int32.lt_iff_toInt_lt]; omega
  have eb : own_by v kk ss K (0 + 5) = (f4_0 v (Int32.ofNat 5) kk).toInt8.toInt32 := (if_neg (show ¬ (0 + 5 = K) by omega)).trans (if_pos (show 0 + 5 < 10 by decide))
  rw [eb]
  unfold f4_0
  rw [if_pos c1]
  by_cases c2 : Int32.ofNat 5 < (kk - (1 : Int32))
  · rw [if_pos c2]
    rw [Int32.lt_iff_toInt_lt] at c2
    have b := own_b3 ((((((v.toUInt64 >>> (((7 : Int32) * Int32.ofNat 5) &&& 0x3f).toInt64.toUInt64).toInt64) &&& (127 : Int64)).toInt32)) ||| (128 : Int32))
    rw [if_pos (by omega)]
    exact b.trans (by omega)
  · rw [if_neg c2]
    rw [Int32.lt_iff_toInt_lt] at c2
    have b := own_b3 (((((v.toUInt64 >>> (((7 : Int32) * Int32.ofNat 5) &&& 0x3f).toInt64.toUInt64).toInt64) &&& (127 : Int64)).toInt32))
    rw [if_neg (by omega)]
    exact b.trans (by omega)
theorem own_lo6 (v : Int64) : ((((((v.toUInt64 >>> (((7 : Int32) * Int32.ofNat 6) &&& 0x3f).toInt64.toUInt64).toInt64) &&& (127 : Int64)).toInt32))).toInt = (v.toInt % 18446744073709551616 / 4398046511104) % 128 := by
  have e1 := c_maskL ((v.toUInt64 >>> (((7 : Int32) * Int32.ofNat 6) &&& 0x3f).toInt64.toUInt64).toInt64) 127 7 (by decide) (by decide)
  have e2 := c_l2i (((v.toUInt64 >>> (((7 : Int32) * Int32.ofNat 6) &&& 0x3f).toInt64.toUInt64).toInt64) &&& (127 : Int64))
  have e3 := rng32 (((((v.toUInt64 >>> (((7 : Int32) * Int32.ofNat 6) &&& 0x3f).toInt64.toUInt64).toInt64) &&& (127 : Int64)).toInt32))
  have e4 := c_lushr v ((7 : Int32) * Int32.ofNat 6) 42 (by decide) (by decide)
  rw [show ((2 ^ 42 : Nat) : Int) = 4398046511104 by decide] at e4
  omega
theorem own_byte6 {v : Int64} {kk ss : Int32} {K : Nat} (hK : kk.toInt = (K : Int)) (hK1 : 1 ≤ K) (hK10 : K ≤ 10) (hi : 6 < K) : ((own_by v kk ss K (0 + 6)) &&& (255 : Int32)).toInt = (v.toInt % 18446744073709551616 / 4398046511104) % 128 + (if 6 + 1 < K then 128 else 0) := by
  have l := own_lo6 v
  have o := c_or' (((((v.toUInt64 >>> (((7 : Int32) * Int32.ofNat 6) &&& 0x3f).toInt64.toUInt64).toInt64) &&& (127 : Int64)).toInt32)) 128 7 (by decide) 128 (by decide) (by decide) (by omega) (by omega)
  have r := rng32 ((((((v.toUInt64 >>> (((7 : Int32) * Int32.ofNat 6) &&& 0x3f).toInt64.toUInt64).toInt64) &&& (127 : Int64)).toInt32)) ||| (128 : Int32))
  have z : (128 : Int32).toInt = 128 := by decide
  have z1 : (1 : Int32).toInt = 1 := by decide
  have ms := c_isub kk 1
  have mr := rng32 (kk - 1)
  have zi : (Int32.ofNat 6).toInt = 6 := by decide
  have c1 : Int32.ofNat 6 < kk := by rw [Int32.lt_iff_toInt_lt]; omega
  have eb : own_by v kk ss K (0 + 6) = (f4_0 v (Int32.ofNat 6) kk).toInt8.toInt32 := (if_neg (show ¬ (0 + 6 = K) by omega)).trans (if_pos (show 0 + 6 < 10 by decide))
  rw [eb]
  unfold f4_0
  rw [if_pos c1]
  by_cases c2 : Int32.ofNat 6 < (kk - (1 : Int32))
  · rw [if_pos c2]
    rw [Int32.lt_iff_toInt_lt] at c2
    have b := own_b3 ((((((v.toUInt64 >>> (((7 : Int32) * Int32.ofNat 6) &&& 0x3f).toInt64.toUInt64).toInt64) &&& (127 : Int64)).toInt32)) ||| (128 : Int32))
    rw [if_pos (by omega)]
    exact b.trans (by omega)
  · rw [if_neg c2]
    rw [Int32.lt_iff_toInt_lt] at c2
    have b := own_b3 (((((v.toUInt64 >>> (((7 : Int32) * Int32.ofNat 6) &&& 0x3f).toInt64.toUInt64).toInt64) &&& (127 : Int64)).toInt32))
    rw [if_neg (by omega)]
    exact b.trans (by omega)
theorem own_lo7 (v : Int64) : ((((((v.toUInt64 >>> (((7 : Int32) * Int32.ofNat 7) &&& 0x3f).toInt64.toUInt64).toInt64) &&& (127 : Int64)).toInt32))).toInt = (v.toInt % 18446744073709551616 / 562949953421312) % 128 := by
  have e1 := c_maskL ((v.toUInt64 >>> (((7 : Int32) * Int32.ofNat 7) &&& 0x3f).toInt64.toUInt64).toInt64) 127 7 (by decide) (by decide)
  have e2 := c_l2i (((v.toUInt64 >>> (((7 : Int32) * Int32.ofNat 7) &&& 0x3f).toInt64.toUInt64).toInt64) &&& (127 : Int64))
  have e3 := rng32 (((((v.toUInt64 >>> (((7 : Int32) * Int32.ofNat 7) &&& 0x3f).toInt64.toUInt64).toInt64) &&& (127 : Int64)).toInt32))
  have e4 := c_lushr v ((7 : Int32) * Int32.ofNat 7) 49 (by decide) (by decide)
  rw [show ((2 ^ 49 : Nat) : Int) = 562949953421312 by decide] at e4
  omega
theorem own_byte7 {v : Int64} {kk ss : Int32} {K : Nat} (hK : kk.toInt = (K : Int)) (hK1 : 1 ≤ K) (hK10 : K ≤ 10) (hi : 7 < K) : ((own_by v kk ss K (0 + 7)) &&& (255 : Int32)).toInt = (v.toInt % 18446744073709551616 / 562949953421312) % 128 + (if 7 + 1 < K then 128 else 0) := by
  have l := own_lo7 v
  have o := c_or' (((((v.toUInt64 >>> (((7 : Int32) * Int32.ofNat 7) &&& 0x3f).toInt64.toUInt64).toInt64) &&& (127 : Int64)).toInt32)) 128 7 (by decide) 128 (by decide) (by decide) (by omega) (by omega)
  have r := rng32 ((((((v.toUInt64 >>> (((7 : Int32) * Int32.ofNat 7) &&& 0x3f).toInt64.toUInt64).toInt64) &&& (127 : Int64)).toInt32)) ||| (128 : Int32))
  have z : (128 : Int32).toInt = 128 := by decide
  have z1 : (1 : Int32).toInt = 1 := by decide
  have ms := c_isub kk 1
  have mr := rng32 (kk - 1)
  have zi : (Int32.ofNat 7).toInt = 7 := by decide
  have c1 : Int32.ofNat 7 < kk := by rw [Int32.lt_iff_toInt_lt]; omega
  have eb : own_by v kk ss K (0 + 7) = (f4_0 v (Int32.ofNat 7) kk).toInt8.toInt32 := (if_neg (show ¬ (0 + 7 = K) by omega)).trans (if_pos (show 0 + 7 < 10 by decide))
  rw [eb]
  unfold f4_0
  rw [if_pos c1]
  by_cases c2 : Int32.ofNat 7 < (kk - (1 : Int32))
  · rw [if_pos c2]
    rw [Int32.lt_iff_toInt_lt] at c2
    have b := own_b3 ((((((v.toUInt64 >>> (((7 : Int32) * Int32.ofNat 7) &&& 0x3f).toInt64.toUInt64).toInt64) &&& (127 : Int64)).toInt32)) ||| (128 : Int32))
    rw [if_pos (by omega)]
    exact b.trans (by omega)
  · rw [if_neg c2]
    rw [Int32.lt_iff_toInt_lt] at c2
    have b := own_b3 (((((v.toUInt64 >>> (((7 : Int32) * Int32.ofNat 7) &&& 0x3f).toInt64.toUInt64).toInt64) &&& (127 : Int64)).toInt32))
    rw [if_neg (by omega)]
    exact b.trans (by omega)
theorem own_lo8 (v : Int64) : ((((((v.toUInt64 >>> (((7 : Int32) * Int32.ofNat 8) &&& 0x3f).toInt64.toUInt64).toInt64) &&& (127 : Int64)).toInt32))).toInt = (v.toInt % 18446744073709551616 / 72057594037927936) % 128 := by
  have e1 := c_maskL ((v.toUInt64 >>> (((7 : Int32) * Int32.ofNat 8) &&& 0x3f).toInt64.toUInt64).toInt64) 127 7 (by decide) (by decide)
  have e2 := c_l2i (((v.toUInt64 >>> (((7 : Int32) * Int32.ofNat 8) &&& 0x3f).toInt64.toUInt64).toInt64) &&& (127 : Int64))
  have e3 := rng32 (((((v.toUInt64 >>> (((7 : Int32) * Int32.ofNat 8) &&& 0x3f).toInt64.toUInt64).toInt64) &&& (127 : Int64)).toInt32))
  have e4 := c_lushr v ((7 : Int32) * Int32.ofNat 8) 56 (by decide) (by decide)
  rw [show ((2 ^ 56 : Nat) : Int) = 72057594037927936 by decide] at e4
  omega
theorem own_byte8 {v : Int64} {kk ss : Int32} {K : Nat} (hK : kk.toInt = (K : Int)) (hK1 : 1 ≤ K) (hK10 : K ≤ 10) (hi : 8 < K) : ((own_by v kk ss K (0 + 8)) &&& (255 : Int32)).toInt = (v.toInt % 18446744073709551616 / 72057594037927936) % 128 + (if 8 + 1 < K then 128 else 0) := by
  have l := own_lo8 v
  have o := c_or' (((((v.toUInt64 >>> (((7 : Int32) * Int32.ofNat 8) &&& 0x3f).toInt64.toUInt64).toInt64) &&& (127 : Int64)).toInt32)) 128 7 (by decide) 128 (by decide) (by decide) (by omega) (by omega)
  have r := rng32 ((((((v.toUInt64 >>> (((7 : Int32) * Int32.ofNat 8) &&& 0x3f).toInt64.toUInt64).toInt64) &&& (127 : Int64)).toInt32)) ||| (128 : Int32))
  have z : (128 : Int32).toInt = 128 := by decide
  have z1 : (1 : Int32).toInt = 1 := by decide
  have ms := c_isub kk 1
  have mr := rng32 (kk - 1)
  have zi : (Int32.ofNat 8).toInt = 8 := by decide
  have c1 : Int32.ofNat 8 < kk := by rw [Int32.lt_iff_toInt_lt]; omega
  have eb : own_by v kk ss K (0 + 8) = (f4_0 v (Int32.ofNat 8) kk).toInt8.toInt32 := (if_neg (show ¬ (0 + 8 = K) by omega)).trans (if_pos (show 0 + 8 < 10 by decide))
  rw [eb]
  unfold f4_0
  rw [if_pos c1]
  by_cases c2 : Int32.ofNat 8 < (kk - (1 : Int32))
  · rw [if_pos c2]
    rw [Int32.lt_iff_toInt_lt] at c2
    have b := own_b3 ((((((v.toUInt64 >>> (((7 : Int32) * Int32.ofNat 8) &&& 0x3f).toInt64.toUInt64).toInt64) &&& (127 : Int64)).toInt32)) ||| (128 : Int32))
    rw [if_pos (by omega)]
    exact b.trans (by omega)
  · rw [if_neg c2]
    rw [Int32.lt_iff_toInt_lt] at c2
    have b := own_b3 (((((v.toUInt64 >>> (((7 : Int32) * Int32.ofNat 8) &&& 0x3f).toInt64.toUInt64).toInt64) &&& (127 : Int64)).toInt32))
    rw [if_neg (by omega)]
    exact b.trans (by omega)
theorem own_lo9 (v : Int64) : ((((((v.toUInt64 >>> (((7 : Int32) * Int32.ofNat 9) &&& 0x3f).toInt64.toUInt64).toInt64) &&& (127 : Int64)).toInt32))).toInt = (v.toInt % 18446744073709551616 / 9223372036854775808) % 128 := by
  have e1 := c_maskL ((v.toUInt64 >>> (((7 : Int32) * Int32.ofNat 9) &&& 0x3f).toInt64.toUInt64).toInt64) 127 7 (by decide) (by decide)
  have e2 := c_l2i (((v.toUInt64 >>> (((7 : Int32) * Int32.ofNat 9) &&& 0x3f).toInt64.toUInt64).toInt64) &&& (127 : Int64))
  have e3 := rng32 (((((v.toUInt64 >>> (((7 : Int32) * Int32.ofNat 9) &&& 0x3f).toInt64.toUInt64).toInt64) &&& (127 : Int64)).toInt32))
  have e4 := c_lushr v ((7 : Int32) * Int32.ofNat 9) 63 (by decide) (by decide)
  rw [show ((2 ^ 63 : Nat) : Int) = 9223372036854775808 by decide] at e4
  omega
theorem own_byte9 {v : Int64} {kk ss : Int32} {K : Nat} (hK : kk.toInt = (K : Int)) (hK1 : 1 ≤ K) (hK10 : K ≤ 10) (hi : 9 < K) : ((own_by v kk ss K (0 + 9)) &&& (255 : Int32)).toInt = (v.toInt % 18446744073709551616 / 9223372036854775808) % 128 + (if 9 + 1 < K then 128 else 0) := by
  have l := own_lo9 v
  have o := c_or' (((((v.toUInt64 >>> (((7 : Int32) * Int32.ofNat 9) &&& 0x3f).toInt64.toUInt64).toInt64) &&& (127 : Int64)).toInt32)) 128 7 (by decide) 128 (by decide) (by decide) (by omega) (by omega)
  have r := rng32 ((((((v.toUInt64 >>> (((7 : Int32) * Int32.ofNat 9) &&& 0x3f).toInt64.toUInt64).toInt64) &&& (127 : Int64)).toInt32)) ||| (128 : Int32))
  have z : (128 : Int32).toInt = 128 := by decide
  have z1 : (1 : Int32).toInt = 1 := by decide
  have ms := c_isub kk 1
  have mr := rng32 (kk - 1)
  have zi : (Int32.ofNat 9).toInt = 9 := by decide
  have c1 : Int32.ofNat 9 < kk := by rw [Int32.lt_iff_toInt_lt]; omega
  have eb : own_by v kk ss K (0 + 9) = (f4_0 v (Int32.ofNat 9) kk).toInt8.toInt32 := (if_neg (show ¬ (0 + 9 = K) by omega)).trans (if_pos (show 0 + 9 < 10 by decide))
  rw [eb]
  unfold f4_0
  rw [if_pos c1]
  by_cases c2 : Int32.ofNat 9 < (kk - (1 : Int32))
  · rw [if_pos c2]
    rw [Int32.lt_iff_toInt_lt] at c2
    have b := own_b3 ((((((v.toUInt64 >>> (((7 : Int32) * Int32.ofNat 9) &&& 0x3f).toInt64.toUInt64).toInt64) &&& (127 : Int64)).toInt32)) ||| (128 : Int32))
    rw [if_pos (by omega)]
    exact b.trans (by omega)
  · rw [if_neg c2]
    rw [Int32.lt_iff_toInt_lt] at c2
    have b := own_b3 (((((v.toUInt64 >>> (((7 : Int32) * Int32.ofNat 9) &&& 0x3f).toInt64.toUInt64).toInt64) &&& (127 : Int64)).toInt32))
    rw [if_neg (by omega)]
    exact b.trans (by omega)
theorem own_x {v : Int64} {kk ss : Int32} {K : Nat} (hK : kk.toInt = (K : Int)) (hK1 : 1 ≤ K) (hK10 : K ≤ 10) (i : Nat) (hi : i < K) : 0 ≤ ((own_by v kk ss K (0 + i)) &&& (255 : Int32)).toInt ∧ ((own_by v kk ss K (0 + i)) &&& (255 : Int32)).toInt < 256 ∧ (i + 1 < K → 128 ≤ ((own_by v kk ss K (0 + i)) &&& (255 : Int32)).toInt) ∧ (¬ i + 1 < K → ((own_by v kk ss K (0 + i)) &&& (255 : Int32)).toInt < 128) := by
  by_cases d0 : i = 0
  · subst d0; have b := own_byte0 (v := v) (ss := ss) hK hK1 hK10 hi; split at b <;> omega
  by_cases d1 : i = 1
  · subst d1; have b := own_byte1 (v := v) (ss := ss) hK hK1 hK10 hi; split at b <;> omega
  by_cases d2 : i = 2
  · subst d2; have b := own_byte2 (v := v) (ss := ss) hK hK1 hK10 hi; split at b <;> omega
  by_cases d3 : i = 3
  · subst d3; have b := own_byte3 (v := v) (ss := ss) hK hK1 hK10 hi; split at b <;> omega
  by_cases d4 : i = 4
  · subst d4; have b := own_byte4 (v := v) (ss := ss) hK hK1 hK10 hi; split at b <;> omega
  by_cases d5 : i = 5
  · subst d5; have b := own_byte5 (v := v) (ss := ss) hK hK1 hK10 hi; split at b <;> omega
  by_cases d6 : i = 6
  · subst d6; have b := own_byte6 (v := v) (ss := ss) hK hK1 hK10 hi; split at b <;> omega
  by_cases d7 : i = 7
  · subst d7; have b := own_byte7 (v := v) (ss := ss) hK hK1 hK10 hi; split at b <;> omega
  by_cases d8 : i = 8
  · subst d8; have b := own_byte8 (v := v) (ss := ss) hK hK1 hK10 hi; split at b <;> omega
  by_cases d9 : i = 9
  · subst d9; have b := own_byte9 (v := v) (ss := ss) hK hK1 hK10 hi; split at b <;> omega
  omega
section Law
variable {v : Int64} {kk ss : Int32} {K : Nat}
theorem own_p1 (hK1 : 1 ≤ K) (hK10 : K ≤ 10) : K - 1 ≤ 9 ∧ 0 + (K - 1) < 11 := by omega
theorem own_p2 (hK : kk.toInt = (K : Int)) (hK1 : 1 ≤ K) (hK10 : K ≤ 10) : ∀ i, i < K - 1 → ¬ (((own_by v kk ss K (0 + i)) &&& (255 : Int32)) &&& (128 : Int32)) = (0 : Int32) := fun i hi q => by
  obtain ⟨a, b, c, -⟩ := own_x (v := v) (ss := ss) hK hK1 hK10 i (by omega)
  have := (own_hi128 _ ⟨a, b⟩).mp q
  have := c (by omega)
  omega
theorem own_p3 (hK : kk.toInt = (K : Int)) (hK1 : 1 ≤ K) (hK10 : K ≤ 10) : (((own_by v kk ss K (0 + (K - 1))) &&& (255 : Int32)) &&& (128 : Int32)) = (0 : Int32) := by
  obtain ⟨a, b, -, d⟩ := own_x (v := v) (ss := ss) hK hK1 hK10 (K - 1) (by omega)
  exact (own_hi128 _ ⟨a, b⟩).mpr (d (by omega))
theorem own_p4 (hK : kk.toInt = (K : Int)) (hK1 : 1 ≤ K) (hK10 : K ≤ 10) : K - 1 = 9 → ¬ ((1 : Int32) < ((own_by v kk ss K (0 + 9)) &&& (255 : Int32))) := fun q r => by
  have b := own_byte9 (v := v) (ss := ss) hK hK1 hK10 (by omega)
  rw [if_neg (by omega)] at b
  rw [Int32.lt_iff_toInt_lt] at r
  have z : (1 : Int32).toInt = 1 := by decide
  omega
theorem own_en (hK : kk.toInt = (K : Int)) (hK10 : K ≤ 10) : (kk + (1 : Int32)).toInt = (K : Int) + 1 := by
  have a := c_iadd kk 1
  have r := rng32 (kk + 1)
  have z : (1 : Int32).toInt = 1 := by decide
  omega
theorem own_p5 (hK : kk.toInt = (K : Int)) (hK1 : 1 ≤ K) (hK10 : K ≤ 10) : ∀ i, i ≤ K - 1 → ((0 + i : Nat) : Int) ≠ (kk + (1 : Int32)).toInt := fun i hi => by
  have := own_en hK hK10
  omega
theorem own_q0 {w : Int32} (hK1 : 1 ≤ K) (h : w.toInt = ((0 + (K - 1) + 1 : Nat) : Int)) : w.toInt = ((K + 0 : Nat) : Int) := by omega
theorem own_sec (hs : 0 ≤ ss.toInt ∧ ss.toInt < 128) : ((own_by v kk ss K (K + 0)) &&& (255 : Int32)).toInt = ss.toInt := by
  have e : own_by v kk ss K (K + 0) = ((ss.toInt8.toInt32).toInt8.toInt32) := if_pos rfl
  rw [e]
  have e0 := c_mask ((ss.toInt8.toInt32).toInt8.toInt32) 255 8 (by decide) (by decide)
  have e1 := (c_i2b ss).1
  have e2 := (c_i2b ss.toInt8.toInt32).1
  omega
theorem own_q1 (hs : 0 ≤ ss.toInt ∧ ss.toInt < 128) : (((own_by v kk ss K (K + 0)) &&& (255 : Int32)) &&& (128 : Int32)) = (0 : Int32) := by
  have e := own_sec (v := v) (kk := kk) (K := K) hs
  exact (own_hi128 _ (by omega)).mpr (by omega)
theorem own_q2 (hK : kk.toInt = (K : Int)) (hK10 : K ≤ 10) : ∀ i, i ≤ 0 → ((K + i : Nat) : Int) ≠ (kk + (1 : Int32)).toInt := fun i hi => by
  have := own_en hK hK10
  omega
theorem own_v2 (hs : 0 ≤ ss.toInt ∧ ss.toInt < 128) : own_acc (own_by v kk ss K) K (0 + 1) = ss.toInt64 := by
  have e := own_sec (v := v) (kk := kk) (K := K) hs
  have e1 := c_mask ((own_by v kk ss K (K + 0)) &&& (255 : Int32)) 127 7 (by decide) (by decide)
  have e2 : (((own_by v kk ss K (K + 0)) &&& (255 : Int32)) &&& (127 : Int32)) = ss := Int32.toInt_inj.mp (by omega)
  show (0 : Int64) ||| ((((own_by v kk ss K (K + 0)) &&& (255 : Int32)) &&& (127 : Int32)).toInt64 <<< (Int32.ofNat (7 * 0) &&& 0x3f).toInt64) = ss.toInt64
  rw [e2]
  have e3 := c_lshl ss.toInt64 (Int32.ofNat (7 * 0)) 0 (by decide)
  have e4 : ss.toInt64 <<< (Int32.ofNat (7 * 0) &&& 0x3f).toInt64 = ss.toInt64 := by
    apply Int64.toInt_inj.mp
    have r1 := rng64 (ss.toInt64 <<< (Int32.ofNat (7 * 0) &&& 0x3f).toInt64)
    have r2 := rng64 ss.toInt64
    omega
  rw [e4]; simp
theorem own_v3 {w : Int32} (hK : kk.toInt = (K : Int)) (hK10 : K ≤ 10) (h : w.toInt = ((K + 0 + 1 : Nat) : Int)) : f8_0 w (kk + (1 : Int32)) = (0 : Int32) := by
  have e := own_en hK hK10
  unfold f8_0
  rw [if_neg]
  rw [Int32.lt_iff_toInt_lt]
  omega
end Law
theorem own_acc0 {f : Nat → Int32} {N : Int} (hN : 0 ≤ N ∧ N < 18446744073709551616) (hA : (own_acc f 0 0).toInt = N % 1) (hx : ((f (0 + 0)) &&& (255 : Int32)).toInt % 128 = (N / 1) % 128) : (own_acc f 0 (0 + 1)).toInt = N % 128 := by
  have e1 := c_mask ((f (0 + 0)) &&& (255 : Int32)) 127 7 (by decide) (by decide)
  have e2 := c_i2l (((f (0 + 0)) &&& (255 : Int32)) &&& (127 : Int32))
  have e3 := c_lshl ((((f (0 + 0)) &&& (255 : Int32)) &&& (127 : Int32)).toInt64) (Int32.ofNat (7 * 0)) 0 (by decide)
  rw [show ((2 ^ 0 : Nat) : Int) = 1 by decide] at e3
  have e4 := c_orL' (own_acc f 0 0) ((((f (0 + 0)) &&& (255 : Int32)) &&& (127 : Int32)).toInt64 <<< (Int32.ofNat (7 * 0) &&& 0x3f).toInt64) 0 (by decide) 1 (by decide) (by omega) (by omega) (by omega)
  have r := rng64 (own_acc f 0 (0 + 1))
  have u : own_acc f 0 (0 + 1) = own_acc f 0 0 ||| ((((f (0 + 0)) &&& (255 : Int32)) &&& (127 : Int32)).toInt64 <<< (Int32.ofNat (7 * 0) &&& 0x3f).toInt64) := rfl
  rw [u] at r ⊢
  omega
theorem own_acc1 {f : Nat → Int32} {N : Int} (hN : 0 ≤ N ∧ N < 18446744073709551616) (hA : (own_acc f 0 1).toInt = N % 128) (hx : ((f (0 + 1)) &&& (255 : Int32)).toInt % 128 = (N / 128) % 128) : (own_acc f 0 (1 + 1)).toInt = N % 16384 := by
  have e1 := c_mask ((f (0 + 1)) &&& (255 : Int32)) 127 7 (by decide) (by decide)
  have e2 := c_i2l (((f (0 + 1)) &&& (255 : Int32)) &&& (127 : Int32))
  have e3 := c_lshl ((((f (0 + 1)) &&& (255 : Int32)) &&& (127 : Int32)).toInt64) (Int32.ofNat (7 * 1)) 7 (by decide)
  rw [show ((2 ^ 7 : Nat) : Int) = 128 by decide] at e3
  have e4 := c_orL' (own_acc f 0 1) ((((f (0 + 1)) &&& (255 : Int32)) &&& (127 : Int32)).toInt64 <<< (Int32.ofNat (7 * 1) &&& 0x3f).toInt64) 7 (by decide) 128 (by decide) (by omega) (by omega) (by omega)
  have r := rng64 (own_acc f 0 (1 + 1))
  have u : own_acc f 0 (1 + 1) = own_acc f 0 1 ||| ((((f (0 + 1)) &&& (255 : Int32)) &&& (127 : Int32)).toInt64 <<< (Int32.ofNat (7 * 1) &&& 0x3f).toInt64) := rfl
  rw [u] at r ⊢
  omega
theorem own_acc2 {f : Nat → Int32} {N : Int} (hN : 0 ≤ N ∧ N < 18446744073709551616) (hA : (own_acc f 0 2).toInt = N % 16384) (hx : ((f (0 + 2)) &&& (255 : Int32)).toInt % 128 = (N / 16384) % 128) : (own_acc f 0 (2 + 1)).toInt = N % 2097152 := by
  have e1 := c_mask ((f (0 + 2)) &&& (255 : Int32)) 127 7 (by decide) (by decide)
  have e2 := c_i2l (((f (0 + 2)) &&& (255 : Int32)) &&& (127 : Int32))
  have e3 := c_lshl ((((f (0 + 2)) &&& (255 : Int32)) &&& (127 : Int32)).toInt64) (Int32.ofNat (7 * 2)) 14 (by decide)
  rw [show ((2 ^ 14 : Nat) : Int) = 16384 by decide] at e3
  have e4 := c_orL' (own_acc f 0 2) ((((f (0 + 2)) &&& (255 : Int32)) &&& (127 : Int32)).toInt64 <<< (Int32.ofNat (7 * 2) &&& 0x3f).toInt64) 14 (by decide) 16384 (by decide) (by omega) (by omega) (by omega)
  have r := rng64 (own_acc f 0 (2 + 1))
  have u : own_acc f 0 (2 + 1) = own_acc f 0 2 ||| ((((f (0 + 2)) &&& (255 : Int32)) &&& (127 : Int32)).toInt64 <<< (Int32.ofNat (7 * 2) &&& 0x3f).toInt64) := rfl
  rw [u] at r ⊢
  omega
theorem own_acc3 {f : Nat → Int32} {N : Int} (hN : 0 ≤ N ∧ N < 18446744073709551616) (hA : (own_acc f 0 3).toInt = N % 2097152) (hx : ((f (0 + 3)) &&& (255 : Int32)).toInt % 128 = (N / 2097152) % 128) : (own_acc f 0 (3 + 1)).toInt = N % 268435456 := by
  have e1 := c_mask ((f (0 + 3)) &&& (255 : Int32)) 127 7 (by decide) (by decide)
  have e2 := c_i2l (((f (0 + 3)) &&& (255 : Int32)) &&& (127 : Int32))
  have e3 := c_lshl ((((f (0 + 3)) &&& (255 : Int32)) &&& (127 : Int32)).toInt64) (Int32.ofNat (7 * 3)) 21 (by decide)
  rw [show ((2 ^ 21 : Nat) : Int) = 2097152 by decide] at e3
  have e4 := c_orL' (own_acc f 0 3) ((((f (0 + 3)) &&& (255 : Int32)) &&& (127 : Int32)).toInt64 <<< (Int32.ofNat (7 * 3) &&& 0x3f).toInt64) 21 (by decide) 2097152 (by decide) (by omega) (by omega) (by omega)
  have r := rng64 (own_acc f 0 (3 + 1))
  have u : own_acc f 0 (3 + 1) = own_acc f 0 3 ||| ((((f (0 + 3)) &&& (255 : Int32)) &&& (127 : Int32)).toInt64 <<< (Int32.ofNat (7 * 3) &&& 0x3f).toInt64) := rfl
  rw [u] at r ⊢
  omega
theorem own_acc4 {f : Nat → Int32} {N : Int} (hN : 0 ≤ N ∧ N < 18446744073709551616) (hA : (own_acc f 0 4).toInt = N % 268435456) (hx : ((f (0 + 4)) &&& (255 : Int32)).toInt % 128 = (N / 268435456) % 128) : (own_acc f 0 (4 + 1)).toInt = N % 34359738368 := by
  have e1 := c_mask ((f (0 + 4)) &&& (255 : Int32)) 127 7 (by decide) (by decide)
  have e2 := c_i2l (((f (0 + 4)) &&& (255 : Int32)) &&& (127 : Int32))
  have e3 := c_lshl ((((f (0 + 4)) &&& (255 : Int32)) &&& (127 : Int32)).toInt64) (Int32.ofNat (7 * 4)) 28 (by decide)
  rw [show ((2 ^ 28 : Nat) : Int) = 268435456 by decide] at e3
  have e4 := c_orL' (own_acc f 0 4) ((((f (0 + 4)) &&& (255 : Int32)) &&& (127 : Int32)).toInt64 <<< (Int32.ofNat (7 * 4) &&& 0x3f).toInt64) 28 (by decide) 268435456 (by decide) (by omega) (by omega) (by omega)
  have r := rng64 (own_acc f 0 (4 + 1))
  have u : own_acc f 0 (4 + 1) = own_acc f 0 4 ||| ((((f (0 + 4)) &&& (255 : Int32)) &&& (127 : Int32)).toInt64 <<< (Int32.ofNat (7 * 4) &&& 0x3f).toInt64) := rfl
  rw [u] at r ⊢
  omega
theorem own_acc5 {f : Nat → Int32} {N : Int} (hN : 0 ≤ N ∧ N < 18446744073709551616) (hA : (own_acc f 0 5).toInt = N % 34359738368) (hx : ((f (0 + 5)) &&& (255 : Int32)).toInt % 128 = (N / 34359738368) % 128) : (own_acc f 0 (5 + 1)).toInt = N % 4398046511104 := by
  have e1 := c_mask ((f (0 + 5)) &&& (255 : Int32)) 127 7 (by decide) (by decide)
  have e2 := c_i2l (((f (0 + 5)) &&& (255 : Int32)) &&& (127 : Int32))
  have e3 := c_lshl ((((f (0 + 5)) &&& (255 : Int32)) &&& (127 : Int32)).toInt64) (Int32.ofNat (7 * 5)) 35 (by decide)
  rw [show ((2 ^ 35 : Nat) : Int) = 34359738368 by decide] at e3
  have e4 := c_orL' (own_acc f 0 5) ((((f (0 + 5)) &&& (255 : Int32)) &&& (127 : Int32)).toInt64 <<< (Int32.ofNat (7 * 5) &&& 0x3f).toInt64) 35 (by decide) 34359738368 (by decide) (by omega) (by omega) (by omega)
  have r := rng64 (own_acc f 0 (5 + 1))
  have u : own_acc f 0 (5 + 1) = own_acc f 0 5 ||| ((((f (0 + 5)) &&& (255 : Int32)) &&& (127 : Int32)).toInt64 <<< (Int32.ofNat (7 * 5) &&& 0x3f).toInt64) := rfl
  rw [u] at r ⊢
  omega
theorem own_acc6 {f : Nat → Int32} {N : Int} (hN : 0 ≤ N ∧ N < 18446744073709551616) (hA : (own_acc f 0 6).toInt = N % 4398046511104) (hx : ((f (0 + 6)) &&& (255 : Int32)).toInt % 128 = (N / 4398046511104) % 128) : (own_acc f 0 (6 + 1)).toInt = N % 562949953421312 := by
  have e1 := c_mask ((f (0 + 6)) &&& (255 : Int32)) 127 7 (by decide) (by decide)
  have e2 := c_i2l (((f (0 + 6)) &&& (255 : Int32)) &&& (127 : Int32))
  have e3 := c_lshl ((((f (0 + 6)) &&& (255 : Int32)) &&& (127 : Int32)).toInt64) (Int32.ofNat (7 * 6)) 42 (by decide)
  rw [show ((2 ^ 42 : Nat) : Int) = 4398046511104 by decide] at e3
  have e4 := c_orL' (own_acc f 0 6) ((((f (0 + 6)) &&& (255 : Int32)) &&& (127 : Int32)).toInt64 <<< (Int32.ofNat (7 * 6) &&& 0x3f).toInt64) 42 (by decide) 4398046511104 (by decide) (by omega) (by omega) (by omega)
  have r := rng64 (own_acc f 0 (6 + 1))
  have u : own_acc f 0 (6 + 1) = own_acc f 0 6 ||| ((((f (0 + 6)) &&& (255 : Int32)) &&& (127 : Int32)).toInt64 <<< (Int32.ofNat (7 * 6) &&& 0x3f).toInt64) := rfl
  rw [u] at r ⊢
  omega
theorem own_acc7 {f : Nat → Int32} {N : Int} (hN : 0 ≤ N ∧ N < 18446744073709551616) (hA : (own_acc f 0 7).toInt = N % 562949953421312) (hx : ((f (0 + 7)) &&& (255 : Int32)).toInt % 128 = (N / 562949953421312) % 128) : (own_acc f 0 (7 + 1)).toInt = N % 72057594037927936 := by
  have e1 := c_mask ((f (0 + 7)) &&& (255 : Int32)) 127 7 (by decide) (by decide)
  have e2 := c_i2l (((f (0 + 7)) &&& (255 : Int32)) &&& (127 : Int32))
  have e3 := c_lshl ((((f (0 + 7)) &&& (255 : Int32)) &&& (127 : Int32)).toInt64) (Int32.ofNat (7 * 7)) 49 (by decide)
  rw [show ((2 ^ 49 : Nat) : Int) = 562949953421312 by decide] at e3
  have e4 := c_orL' (own_acc f 0 7) ((((f (0 + 7)) &&& (255 : Int32)) &&& (127 : Int32)).toInt64 <<< (Int32.ofNat (7 * 7) &&& 0x3f).toInt64) 49 (by decide) 562949953421312 (by decide) (by omega) (by omega) (by omega)
  have r := rng64 (own_acc f 0 (7 + 1))
  have u : own_acc f 0 (7 + 1) = own_acc f 0 7 ||| ((((f (0 + 7)) &&& (255 : Int32)) &&& (127 : Int32)).toInt64 <<< (Int32.ofNat (7 * 7) &&& 0x3f).toInt64) := rfl
  rw [u] at r ⊢
  omega
theorem own_acc8 {f : Nat → Int32} {N : Int} (hN : 0 ≤ N ∧ N < 18446744073709551616) (hA : (own_acc f 0 8).toInt = N % 72057594037927936) (hx : ((f (0 + 8)) &&& (255 : Int32)).toInt % 128 = (N / 72057594037927936) % 128) : (own_acc f 0 (8 + 1)).toInt = N % 9223372036854775808 := by
  have e1 := c_mask ((f (0 + 8)) &&& (255 : Int32)) 127 7 (by decide) (by decide)
  have e2 := c_i2l (((f (0 + 8)) &&& (255 : Int32)) &&& (127 : Int32))
  have e3 := c_lshl ((((f (0 + 8)) &&& (255 : Int32)) &&& (127 : Int32)).toInt64) (Int32.ofNat (7 * 8)) 56 (by decide)
  rw [show ((2 ^ 56 : Nat) : Int) = 72057594037927936 by decide] at e3
  have e4 := c_orL' (own_acc f 0 8) ((((f (0 + 8)) &&& (255 : Int32)) &&& (127 : Int32)).toInt64 <<< (Int32.ofNat (7 * 8) &&& 0x3f).toInt64) 56 (by decide) 72057594037927936 (by decide) (by omega) (by omega) (by omega)
  have r := rng64 (own_acc f 0 (8 + 1))
  have u : own_acc f 0 (8 + 1) = own_acc f 0 8 ||| ((((f (0 + 8)) &&& (255 : Int32)) &&& (127 : Int32)).toInt64 <<< (Int32.ofNat (7 * 8) &&& 0x3f).toInt64) := rfl
  rw [u] at r ⊢
  omega
theorem own_acc9 {f : Nat → Int32} {N : Int} (hN : 0 ≤ N ∧ N < 18446744073709551616) (hA : (own_acc f 0 9).toInt = N % 9223372036854775808) (hx : ((f (0 + 9)) &&& (255 : Int32)).toInt % 128 = (N / 9223372036854775808) % 128) : ((own_acc f 0 (9 + 1)).toInt - N) % 18446744073709551616 = 0 := by
  have e1 := c_mask ((f (0 + 9)) &&& (255 : Int32)) 127 7 (by decide) (by decide)
  have e2 := c_i2l (((f (0 + 9)) &&& (255 : Int32)) &&& (127 : Int32))
  have e3 := c_lshl ((((f (0 + 9)) &&& (255 : Int32)) &&& (127 : Int32)).toInt64) (Int32.ofNat (7 * 9)) 63 (by decide)
  rw [show ((2 ^ 63 : Nat) : Int) = 9223372036854775808 by decide] at e3
  have e4 := c_orL' (own_acc f 0 9) ((((f (0 + 9)) &&& (255 : Int32)) &&& (127 : Int32)).toInt64 <<< (Int32.ofNat (7 * 9) &&& 0x3f).toInt64) 63 (by decide) 9223372036854775808 (by decide) (by omega) (by omega) (by omega)
  have r := rng64 (own_acc f 0 (9 + 1))
  have u : own_acc f 0 (9 + 1) = own_acc f 0 9 ||| ((((f (0 + 9)) &&& (255 : Int32)) &&& (127 : Int32)).toInt64 <<< (Int32.ofNat (7 * 9) &&& 0x3f).toInt64) := rfl
  rw [u] at r ⊢
  omega
theorem own_v1 {v : Int64} {kk ss : Int32} {K : Nat} (hK : kk.toInt = (K : Int)) (hK1 : 1 ≤ K) (hK10 : K ≤ 10) (hv : v.toInt % 18446744073709551616 < ((2 ^ (7 * K) : Nat) : Int)) : own_acc (own_by v kk ss K) 0 ((K - 1) + 1) = v := by
  apply Int64.toInt_inj.mp
  have rv := rng64 v
  have hN : 0 ≤ v.toInt % 18446744073709551616 ∧ v.toInt % 18446744073709551616 < 18446744073709551616 := by omega
  have a0 : (own_acc (own_by v kk ss K) 0 0).toInt = v.toInt % 18446744073709551616 % 1 := by show (0 : Int64).toInt = _; rw [Int.emod_one]; decide
  have a1 (h : 0 < K) := own_acc0 (f := own_by v kk ss K) hN a0 (by have b := own_byte0 (v := v) (ss := ss) hK hK1 hK10 h; split at b <;> omega)
  have a2 (h : 1 < K) := own_acc1 (f := own_by v kk ss K) hN (a1 (by omega)) (by have b := own_byte1 (v := v) (ss := ss) hK hK1 hK10 h; split at b <;> omega)
  have a3 (h : 2 < K) := own_acc2 (f := own_by v kk ss K) hN (a2 (by omega)) (by have b := own_byte2 (v := v) (ss := ss) hK hK1 hK10 h; split at b <;> omega)
  have a4 (h : 3 < K) := own_acc3 (f := own_by v kk ss K) hN (a3 (by omega)) (by have b := own_byte3 (v := v) (ss := ss) hK hK1 hK10 h; split at b <;> omega)
  have a5 (h : 4 < K) := own_acc4 (f := own_by v kk ss K) hN (a4 (by omega)) (by have b := own_byte4 (v := v) (ss := ss) hK hK1 hK10 h; split at b <;> omega)
  have a6 (h : 5 < K) := own_acc5 (f := own_by v kk ss K) hN (a5 (by omega)) (by have b := own_byte5 (v := v) (ss := ss) hK hK1 hK10 h; split at b <;> omega)
  have a7 (h : 6 < K) := own_acc6 (f := own_by v kk ss K) hN (a6 (by omega)) (by have b := own_byte6 (v := v) (ss := ss) hK hK1 hK10 h; split at b <;> omega)
  have a8 (h : 7 < K) := own_acc7 (f := own_by v kk ss K) hN (a7 (by omega)) (by have b := own_byte7 (v := v) (ss := ss) hK hK1 hK10 h; split at b <;> omega)
  have a9 (h : 8 < K) := own_acc8 (f := own_by v kk ss K) hN (a8 (by omega)) (by have b := own_byte8 (v := v) (ss := ss) hK hK1 hK10 h; split at b <;> omega)
  have a10 (h : 9 < K) := own_acc9 (f := own_by v kk ss K) hN (a9 (by omega)) (by have b := own_byte9 (v := v) (ss := ss) hK hK1 hK10 h; split at b <;> omega)
  by_cases d1 : K = 1
  · subst d1
    rw [show ((2 ^ (7 * 1) : Nat) : Int) = 128 by decide] at hv
    have b := a1 (by decide)
    have r := rng64 (own_acc (own_by v kk ss 1) 0 (0 + 1))
    show (own_acc (own_by v kk ss 1) 0 (0 + 1)).toInt = v.toInt
    omega
  by_cases d2 : K = 2
  · subst d2
    rw [show ((2 ^ (7 * 2) : Nat) : Int) = 16384 by decide] at hv
    have b := a2 (by decide)
    have r := rng64 (own_acc (own_by v kk ss 2) 0 (1 + 1))
    show (own_acc (own_by v kk ss 2) 0 (1 + 1)).toInt = v.toInt
    omega
  by_cases d3 : K = 3
  · subst d3
    rw [show ((2 ^ (7 * 3) : Nat) : Int) = 2097152 by decide] at hv
    have b := a3 (by decide)
    have r := rng64 (own_acc (own_by v kk ss 3) 0 (2 + 1))
    show (own_acc (own_by v kk ss 3) 0 (2 + 1)).toInt = v.toInt
    omega
  by_cases d4 : K = 4
  · subst d4
    rw [show ((2 ^ (7 * 4) : Nat) : Int) = 268435456 by decide] at hv
    have b := a4 (by decide)
    have r := rng64 (own_acc (own_by v kk ss 4) 0 (3 + 1))
    show (own_acc (own_by v kk ss 4) 0 (3 + 1)).toInt = v.toInt
    omega
  by_cases d5 : K = 5
  · subst d5
    rw [show ((2 ^ (7 * 5) : Nat) : Int) = 34359738368 by decide] at hv
    have b := a5 (by decide)
    have r := rng64 (own_acc (own_by v kk ss 5) 0 (4 + 1))
    show (own_acc (own_by v kk ss 5) 0 (4 + 1)).toInt = v.toInt
    omega
  by_cases d6 : K = 6
  · subst d6
    rw [show ((2 ^ (7 * 6) : Nat) : Int) = 4398046511104 by decide] at hv
    have b := a6 (by decide)
    have r := rng64 (own_acc (own_by v kk ss 6) 0 (5 + 1))
    show (own_acc (own_by v kk ss 6) 0 (5 + 1)).toInt = v.toInt
    omega
  by_cases d7 : K = 7
  · subst d7
    rw [show ((2 ^ (7 * 7) : Nat) : Int) = 562949953421312 by decide] at hv
    have b := a7 (by decide)
    have r := rng64 (own_acc (own_by v kk ss 7) 0 (6 + 1))
    show (own_acc (own_by v kk ss 7) 0 (6 + 1)).toInt = v.toInt
    omega
  by_cases d8 : K = 8
  · subst d8
    rw [show ((2 ^ (7 * 8) : Nat) : Int) = 72057594037927936 by decide] at hv
    have b := a8 (by decide)
    have r := rng64 (own_acc (own_by v kk ss 8) 0 (7 + 1))
    show (own_acc (own_by v kk ss 8) 0 (7 + 1)).toInt = v.toInt
    omega
  by_cases d9 : K = 9
  · subst d9
    rw [show ((2 ^ (7 * 9) : Nat) : Int) = 9223372036854775808 by decide] at hv
    have b := a9 (by decide)
    have r := rng64 (own_acc (own_by v kk ss 9) 0 (8 + 1))
    show (own_acc (own_by v kk ss 9) 0 (8 + 1)).toInt = v.toInt
    omega
  by_cases d10 : K = 10
  · subst d10
    rw [show ((2 ^ (7 * 10) : Nat) : Int) = 1180591620717411303424 by decide] at hv
    have b := a10 (by decide)
    have r := rng64 (own_acc (own_by v kk ss 10) 0 (9 + 1))
    show (own_acc (own_by v kk ss 10) 0 (9 + 1)).toInt = v.toInt
    omega
  omega
theorem own_un {α : Type} {f : Nat → α} {i k : Nat} {x : α} (h : ¬ k = i) : own_up f i x k = f k := if_neg h
theorem own_ue {α : Type} {f : Nat → α} {k : Nat} {x : α} : own_up f k x k = x := if_pos rfl
theorem own_by_eq (v : Int64) (kk ss : Int32) (K : Nat) : ∀ i, i < 11 → (own_up (own_up (own_up (own_up (own_up (own_up (own_up (own_up (own_up (own_up (own_up (fun _ => 0) 0 ((f4_0 v (0 : Int32) kk).toInt8.toInt32)) 1 ((f4_0 v (1 : Int32) kk).toInt8.toInt32)) 2 ((f4_0 v (2 : Int32) kk).toInt8.toInt32)) 3 ((f4_0 v (3 : Int32) kk).toInt8.toInt32)) 4 ((f4_0 v (4 : Int32) kk).toInt8.toInt32)) 5 ((f4_0 v (5 : Int32) kk).toInt8.toInt32)) 6 ((f4_0 v (6 : Int32) kk).toInt8.toInt32)) 7 ((f4_0 v (7 : Int32) kk).toInt8.toInt32)) 8 ((f4_0 v (8 : Int32) kk).toInt8.toInt32)) 9 ((f4_0 v (9 : Int32) kk).toInt8.toInt32)) K ((ss.toInt8.toInt32).toInt8.toInt32)) i = own_by v kk ss K i := fun i hi => by
  by_cases q : i = K
  · subst q; exact own_ue.trans (if_pos rfl).symm
  by_cases d0 : i = 0
  · subst d0; exact ((own_un q).trans ((own_un (by decide)).trans ((own_un (by decide)).trans ((own_un (by decide)).trans ((own_un (by decide)).trans ((own_un (by decide)).trans ((own_un (by decide)).trans ((own_un (by decide)).trans ((own_un (by decide)).trans ((own_un (by decide)).trans (own_ue))))))))))).trans ((if_neg q).trans (if_pos (by decide))).symm
  by_cases d1 : i = 1
  · subst d1; exact ((own_un q).trans ((own_un (by decide)).trans ((own_un (by decide)).trans ((own_un (by decide)).trans ((own_un (by decide)).trans ((own_un (by decide)).trans ((own_un (by decide)).trans ((own_un (by decide)).trans ((own_un (by decide)).trans (own_ue)))))))))).trans ((if_neg q).trans (if_pos (by decide))).symm
  by_cases d2 : i = 2
  · subst d2; exact ((own_un q).trans ((own_un (by decide)).trans ((own_un (by decide)).trans ((own_un (by decide)).trans ((own_un (by decide)).trans ((own_un (by decide)).trans ((own_un (by decide)).trans ((own_un (by decide)).trans (own_ue))))))))).trans ((if_neg q).trans (if_pos (by decide))).symm
  by_cases d3 : i = 3
  · subst d3; exact ((own_un q).trans ((own_un (by decide)).trans ((own_un (by decide)).trans ((own_un (by decide)).trans ((own_un (by decide)).trans ((own_un (by decide)).trans ((own_un (by decide)).trans (own_ue)))))))).trans ((if_neg q).trans (if_pos (by decide))).symm
  by_cases d4 : i = 4
  · subst d4; exact ((own_un q).trans ((own_un (by decide)).trans ((own_un (by decide)).trans ((own_un (by decide)).trans ((own_un (by decide)).trans ((own_un (by decide)).trans (own_ue))))))).trans ((if_neg q).trans (if_pos (by decide))).symm
  by_cases d5 : i = 5
  · subst d5; exact ((own_un q).trans ((own_un (by decide)).trans ((own_un (by decide)).trans ((own_un (by decide)).trans ((own_un (by decide)).trans (own_ue)))))).trans ((if_neg q).trans (if_pos (by decide))).symm
  by_cases d6 : i = 6
  · subst d6; exact ((own_un q).trans ((own_un (by decide)).trans ((own_un (by decide)).trans ((own_un (by decide)).trans (own_ue))))).trans ((if_neg q).trans (if_pos (by decide))).symm
  by_cases d7 : i = 7
  · subst d7; exact ((own_un q).trans ((own_un (by decide)).trans ((own_un (by decide)).trans (own_ue)))).trans ((if_neg q).trans (if_pos (by decide))).symm
  by_cases d8 : i = 8
  · subst d8; exact ((own_un q).trans ((own_un (by decide)).trans (own_ue))).trans ((if_neg q).trans (if_pos (by decide))).symm
  by_cases d9 : i = 9
  · subst d9; exact ((own_un q).trans (own_ue)).trans ((if_neg q).trans (if_pos (by decide))).symm
  by_cases d10 : i = 10
  · subst d10; exact ((own_un q).trans ((own_un (by decide)).trans ((own_un (by decide)).trans ((own_un (by decide)).trans ((own_un (by decide)).trans ((own_un (by decide)).trans ((own_un (by decide)).trans ((own_un (by decide)).trans ((own_un (by decide)).trans ((own_un (by decide)).trans ((own_un (by decide)).trans ((rfl : (fun _ => (0 : Int32)) 10 = 0))))))))))))).trans ((if_neg q).trans (if_neg (by decide))).symm
  omega
theorem pn_0 : plainName "com/example/weftline/weftline/runner/BodyVarintPinLaw" = true := by first | (simp [plainName, overriddenIn]; done) | decide +kernel
theorem ef_0 (m : MethodId) (q0 : Int64) (p1 : Int32) (p2 : Int32) : entryFrame m #[(.long q0), (.int p1), (.int p2)] maxLocals = mkF m 0 #[.val (.long q0), .second, .val (.int p1), .val (.int p2), .unset, .unset, .unset, .unset, .unset, .unset, .unset, .unset, .unset] [] := by first | (simp [entryFrame, mkF, argsToLocals, Value.category, maxLocals]; done) | rfl
theorem pd0_0 : parseMethodDescriptor "(J)I" = some ⟨[.long], some .int⟩ := by decide +kernel
theorem pd0_1 : parseMethodDescriptor "(II)I" = some ⟨[.int, .int], some .int⟩ := by decide +kernel
theorem pd0_2 : parseMethodDescriptor "(JII)B" = some ⟨[.long, .int, .int], some .byte⟩ := by decide +kernel
theorem pd0_3 : parseMethodDescriptor "([BI)V" = some ⟨[(.array .byte), .int], none⟩ := by decide +kernel
theorem pd0_4 : parseMethodDescriptor "()J" = some ⟨[], some .long⟩ := by decide +kernel
theorem pd0_5 : parseMethodDescriptor "()Z" = some ⟨[], some .boolean⟩ := by decide +kernel
set_option maxRecDepth 65536 in
set_option maxHeartbeats 40000000 in
theorem rm0 (l : Launch) (Z : State) (a0 : Array Value) (hw : ∀ d ∈ tables_1, d.before a0 Z = true) (ws : List Jvm.Cond) (q0 : Int64) (p1 : Int32) (p2 : Int32) (h0 : Heap) (n0 : Nat) (Z0 : n0 ≤ h0.size) :
    MetFree l x (head1 (Jvm.Cond.code x code maxLocals ret :: ws) room_1) (fun a U => a = #[(.long q0), (.int p1), (.int p2)] ∧ Z.Warmed39 U.vm ∧ U.heap = h0) (fun _ _ _ _ _ => True) (fun _ U o U' => ∃ v L, o = .returned v ∧ (fun v h L => v = some (.int 1) ∧ Fr n0 L) v U'.heap L ∧ FrameEnd U o U' L 16 128) := by
  refine MetFree.of_bodySF (plainFor_of_name pn_0) hisR ?_
  intro p e s m args below meth c s₁ Bd hml0 hP hK
  obtain ⟨rfl, hZ, hh⟩ := hP
  have hx := Bd.exec
  have hby := Bd.bytes
  have hret := Bd.returns
  have hlk := BodyLoose.notSynchronized Bd
  have hml : c.maxLocals = 13 := hml0
  have hown : s.vm.findClass "com/example/weftline/weftline/runner/BodyVarintPinLaw" = some m.cls := findClass_of_methodNamed Bd.named
  have hnm := (name_of_methodNamed Bd.named Bd.method).1
  have X0 : Stand p l e room_1 s m #[(.long q0), (.int p1), (.int p2)] below meth c s₁ [] 0 0 := Stand.of_body Bd
  have e0 : s₁.heap = h0 := by rw [← hh, Bd.state]; rfl
  have N0 := Fr.nil n0
  show own_Ends p e below s 16 128 (fun v h L => v = some (.int 1) ∧ Fr n0 L) (s₁.setTop (entryFrame m #[(.long q0), (.int p1), (.int p2)] maxLocals))
  refine own_cast (ef_0 m q0 p1 p2) ?_
  show own_Ends p e below s _ _ _ (s₁.setTop (mkF m 0 #[.val (.long q0), .second, .val (.int p1), .val (.int p2), .unset, .unset, .unset, .unset, .unset, .unset, .unset, .unset, .unset] []))
  refine own_step (fun t k => XS.lloadN X0.here hx rfl (hb hby at_0) rfl k) ?_
  show own_Ends p e below s _ _ _ (s₁.setTop (mkF m 1 #[.val (.long q0), .second, .val (.int p1), .val (.int p2), .unset, .unset, .unset, .unset, .unset, .unset, .unset, .unset, .unset] [(.long q0)]))
  obtain ⟨_, _, ⟨T1, L1, k1, n1⟩, -, X1, ⟨Lc1, hQ1, l1, y1, z1⟩, st1⟩ := Jvm.LawKit.callS X0 hx (y := (⟨"com/example/weftline/weftline/runner/BodyVarintPinLaw", "minLength", "(J)I"⟩ : MethodName)) hown (mvT hZ (hw _ (List.mem_of_getElem? (i := 0) rfl))) (mvT hZ (hw _ (List.mem_of_getElem? (i := 1) rfl))) (mvT hZ (hw _ (List.mem_of_getElem? (i := 2) rfl))) (mvT hZ (hw _ (List.mem_of_getElem? (i := 3) rfl))) (by decide) (backOf (W := 0) (rm1 l Z a0 hw [] q0  h0 n0  ) hZ (hw _ (List.mem_of_getElem? (i := 3) rfl)) (hw _ (List.mem_of_getElem? (i := 2) rfl)) (by decide) (by decide)) (g := (mkF m 1 #[.val (.long q0), .second, .val (.int p1), .val (.int p2), .unset, .unset, .unset, .unset, .unset, .unset, .unset, .unset, .unset] [(.long q0)])) rfl (by rw [hml]; rfl) (argsL := [(.long q0)]) (rest := []) (lenOf pd0_0 rfl) rfl (by show 2 * 0 + _ ≤ _; exact Nat.le_of_eq rfl) (hb hby at_1) (fun _ _ => ⟨rfl, e0, (by decide : 0 + 0 ≤ _), (by decide : 0 + 0 ≤ _)⟩)
  dsimp only [Pt.U, Pt.locs, Pt.cells, Pt.slots] at X1 l1 y1 z1 st1 hQ1
  subst l1 y1 z1
  obtain ⟨rfl, N1q, e1⟩ := hQ1
  have N1 := Fr.app N0 N1q
  refine own_step st1 ?_
  obtain ⟨LL2, XL2, NL2⟩ : ∃ LL, Stand p l e room_1 s m #[(.long q0), (.int p1), (.int p2)] below meth c T1 LL 0 0 ∧ Fr n0 LL := ⟨_, X1, N1⟩
  show own_Ends p e below s _ _ _ (T1.setTop (mkF m 4 #[.val (.long q0), .second, .val (.int p1), .val (.int p2), .unset, .unset, .unset, .unset, .unset, .unset, .unset, .unset, .unset] [(.int (f1_0 q0))]))
  refine own_step (fun t k => XS.istore XL2.here hx rfl (hb hby at_4) rfl (l' := #[.val (.long q0), .second, .val (.int p1), .val (.int p2), .val (.int (f1_0 q0)), .unset, .unset, .unset, .unset, .unset, .unset, .unset, .unset]) rfl k) ?_
  show own_Ends p e below s _ _ _ (T1.setTop (mkF m 6 #[.val (.long q0), .second, .val (.int p1), .val (.int p2), .val (.int (f1_0 q0)), .unset, .unset, .unset, .unset, .unset, .unset, .unset, .unset] []))
  refine own_step (fun t k => XS.iload XL2.here hx rfl (hb hby at_6) rfl k) ?_
  show own_Ends p e below s _ _ _ (T1.setTop (mkF m 8 #[.val (.long q0), .second, .val (.int p1), .val (.int p2), .val (.int (f1_0 q0)), .unset, .unset, .unset, .unset, .unset, .unset, .unset, .unset] [(.int (f1_0 q0))]))
  refine own_step (fun t k => XS.iloadN XL2.here hx rfl (hb hby at_8) rfl k) ?_
  show own_Ends p e below s _ _ _ (T1.setTop (mkF m 9 #[.val (.long q0), .second, .val (.int p1), .val (.int p2), .val (.int (f1_0 q0)), .unset, .unset, .unset, .unset, .unset, .unset, .unset, .unset] [(.int p1), (.int (f1_0 q0))]))
  refine own_step (fun t k => XL2.ldcInt hx hown (mvT hZ (hw _ (List.mem_of_getElem? (i := 7) rfl))) (g := (mkF m 9 #[.val (.long q0), .second, .val (.int p1), .val (.int p2), .val (.int (f1_0 q0)), .unset, .unset, .unset, .unset, .unset, .unset, .unset, .unset] [(.int p1), (.int (f1_0 q0))])) rfl (hb hby at_9) t k) ?_
  show own_Ends p e below s _ _ _ (T1.setTop (mkF m 11 #[.val (.long q0), .second, .val (.int p1), .val (.int p2), .val (.int (f1_0 q0)), .unset, .unset, .unset, .unset, .unset, .unset, .unset, .unset] [(.int (2147483647 : Int32)), (.int p1), (.int (f1_0 q0))]))
  refine own_step (fun t k => XS.iand XL2.here hx rfl (hb hby at_11) rfl k) ?_
  show own_Ends p e below s _ _ _ (T1.setTop (mkF m 12 #[.val (.long q0), .second, .val (.int p1), .val (.int p2), .val (.int (f1_0 q0)), .unset, .unset, .unset, .unset, .unset, .unset, .unset, .unset] [(.int (p1 &&& (2147483647 : Int32))), (.int (f1_0 q0))]))
  refine own_step (fun t k => XS.bipush XL2.here hx rfl (hb hby at_12) k) ?_
  show own_Ends p e below s _ _ _ (T1.setTop (mkF m 14 #[.val (.long q0), .second, .val (.int p1), .val (.int p2), .val (.int (f1_0 q0)), .unset, .unset, .unset, .unset, .unset, .unset, .unset, .unset] [(.int (10 : Int32)), (.int (p1 &&& (2147483647 : Int32))), (.int (f1_0 q0))]))
  refine own_step (fun t k => iremM XL2 hx rfl (hb hby at_14) rfl (by decide) k) ?_
  show own_Ends p e below s _ _ _ (T1.setTop (mkF m 15 #[.val (.long q0), .second, .val (.int p1), .val (.int p2), .val (.int (f1_0 q0)), .unset, .unset, .unset, .unset, .unset, .unset, .unset, .unset] [(.int ((p1 &&& (2147483647 : Int32)) % (10 : Int32))), (.int (f1_0 q0))]))
  refine own_step (fun t k => XS.iconst XL2.here hx rfl (hb hby at_15) k) ?_
  show own_Ends p e below s _ _ _ (T1.setTop (mkF m 16 #[.val (.long q0), .second, .val (.int p1), .val (.int p2), .val (.int (f1_0 q0)), .unset, .unset, .unset, .unset, .unset, .unset, .unset, .unset] [(.int (1 : Int32)), (.int ((p1 &&& (2147483647 : Int32)) % (10 : Int32))), (.int (f1_0 q0))]))
  refine own_step (fun t k => XS.iadd XL2.here hx rfl (hb hby at_16) rfl k) ?_
  show own_Ends p e below s _ _ _ (T1.setTop (mkF m 17 #[.val (.long q0), .second, .val (.int p1), .val (.int p2), .val (.int (f1_0 q0)), .unset, .unset, .unset, .unset, .unset, .unset, .unset, .unset] [(.int (((p1 &&& (2147483647 : Int32)) % (10 : Int32)) + (1 : Int32))), (.int (f1_0 q0))]))
  obtain ⟨_, _, ⟨T3, L3, k3, n3⟩, -, X3, ⟨Lc3, hQ3, l3, y3, z3⟩, st3⟩ := Jvm.LawKit.callS XL2 hx (y := (⟨"java/lang/Math", "max", "(II)I"⟩ : MethodName)) hown (mvT hZ (hw _ (List.mem_of_getElem? (i := 8) rfl))) (mvT hZ (hw _ (List.mem_of_getElem? (i := 9) rfl))) (mvT hZ (hw _ (List.mem_of_getElem? (i := 10) rfl))) (mvT hZ (hw _ (List.mem_of_getElem? (i := 11) rfl))) (by decide) (backOf (W := 0) (rm3 l Z a0 hw [] (f1_0 q0) (((p1 &&& (2147483647 : Int32)) % (10 : Int32)) + (1 : Int32))  h0 n0  ) hZ (hw _ (List.mem_of_getElem? (i := 11) rfl)) (hw _ (List.mem_of_getElem? (i := 10) rfl)) (by decide) (by decide)) (g := (mkF m 17 #[.val (.long q0), .second, .val (.int p1), .val (.int p2), .val (.int (f1_0 q0)), .unset, .unset, .unset, .unset, .unset, .unset, .unset, .unset] [(.int (((p1 &&& (2147483647 : Int32)) % (10 : Int32)) + (1 : Int32))), (.int (f1_0 q0))])) rfl (by rw [hml]; rfl) (argsL := [(.int (f1_0 q0)), (.int (((p1 &&& (2147483647 : Int32)) % (10 : Int32)) + (1 : Int32)))]) (rest := []) (lenOf pd0_1 rfl) rfl (by show 2 * 0 + _ ≤ _; exact Nat.le_of_eq rfl) (hb hby at_17) (fun _ _ => ⟨rfl, e1, (by decide : 0 + 0 ≤ _), (by decide : 0 + 0 ≤ _)⟩)
  dsimp only [Pt.U, Pt.locs, Pt.cells, Pt.slots] at X3 l3 y3 z3 st3 hQ3
  subst l3 y3 z3
  obtain ⟨rfl, N3q, e3⟩ := hQ3
  have N3 := Fr.app NL2 N3q
  refine own_step st3 ?_
  obtain ⟨LL4, XL4, NL4⟩ : ∃ LL, Stand p l e room_1 s m #[(.long q0), (.int p1), (.int p2)] below meth c T3 LL 0 0 ∧ Fr n0 LL := ⟨_, X3, N3⟩
  show own_Ends p e below s _ _ _ (T3.setTop (mkF m 20 #[.val (.long q0), .second, .val (.int p1), .val (.int p2), .val (.int (f1_0 q0)), .unset, .unset, .unset, .unset, .unset, .unset, .unset, .unset] [(.int (f3_0 (f1_0 q0) (((p1 &&& (2147483647 : Int32)) % (10 : Int32)) + (1 : Int32))))]))
  generalize hz20 : (f3_0 (f1_0 q0) (((p1 &&& (2147483647 : Int32)) % (10 : Int32)) + (1 : Int32))) = kk
  obtain ⟨K, hK, hK1, hK10, hKv⟩ := own_k hz20
  clear hz20
  show own_Ends p e below s _ _ _ (T3.setTop (mkF m 20 #[.val (.long q0), .second, .val (.int p1), .val (.int p2), .val (.int (f1_0 q0)), .unset, .unset, .unset, .unset, .unset, .unset, .unset, .unset] [(.int kk)]))
  refine own_step (fun t k => XS.istore XL4.here hx rfl (hb hby at_20) rfl (l' := #[.val (.long q0), .second, .val (.int p1), .val (.int p2), .val (.int (f1_0 q0)), .val (.int kk), .unset, .unset, .unset, .unset, .unset, .unset, .unset]) rfl k) ?_
  show own_Ends p e below s _ _ _ (T3.setTop (mkF m 22 #[.val (.long q0), .second, .val (.int p1), .val (.int p2), .val (.int (f1_0 q0)), .val (.int kk), .unset, .unset, .unset, .unset, .unset, .unset, .unset] []))
  refine own_step (fun t k => XS.iloadN XL4.here hx rfl (hb hby at_22) rfl k) ?_
  show own_Ends p e below s _ _ _ (T3.setTop (mkF m 23 #[.val (.long q0), .second, .val (.int p1), .val (.int p2), .val (.int (f1_0 q0)), .val (.int kk), .unset, .unset, .unset, .unset, .unset, .unset, .unset] [(.int p2)]))
  refine own_step (fun t k => XS.bipush XL4.here hx rfl (hb hby at_23) k) ?_
  show own_Ends p e below s _ _ _ (T3.setTop (mkF m 25 #[.val (.long q0), .second, .val (.int p1), .val (.int p2), .val (.int (f1_0 q0)), .val (.int kk), .unset, .unset, .unset, .unset, .unset, .unset, .unset] [(.int (127 : Int32)), (.int p2)]))
  refine own_step (fun t k => XS.iand XL4.here hx rfl (hb hby at_25) rfl k) ?_
  show own_Ends p e below s _ _ _ (T3.setTop (mkF m 26 #[.val (.long q0), .second, .val (.int p1), .val (.int p2), .val (.int (f1_0 q0)), .val (.int kk), .unset, .unset, .unset, .unset, .unset, .unset, .unset] [(.int (p2 &&& (127 : Int32)))]))
  generalize hz26 : (p2 &&& (127 : Int32)) = ss
  have hs := own_s hz26
  clear hz26
  show own_Ends p e below s _ _ _ (T3.setTop (mkF m 26 #[.val (.long q0), .second, .val (.int p1), .val (.int p2), .val (.int (f1_0 q0)), .val (.int kk), .unset, .unset, .unset, .unset, .unset, .unset, .unset] [(.int ss)]))
  refine own_step (fun t k => XS.istore XL4.here hx rfl (hb hby at_26) rfl (l' := #[.val (.long q0), .second, .val (.int p1), .val (.int p2), .val (.int (f1_0 q0)), .val (.int kk), .val (.int ss), .unset, .unset, .unset, .unset, .unset, .unset]) rfl k) ?_
  show own_Ends p e below s _ _ _ (T3.setTop (mkF m 28 #[.val (.long q0), .second, .val (.int p1), .val (.int p2), .val (.int (f1_0 q0)), .val (.int kk), .val (.int ss), .unset, .unset, .unset, .unset, .unset, .unset] []))
  refine own_step (fun t k => XS.bipush XL4.here hx rfl (hb hby at_28) k) ?_
  show own_Ends p e below s _ _ _ (T3.setTop (mkF m 30 #[.val (.long q0), .second, .val (.int p1), .val (.int p2), .val (.int (f1_0 q0)), .val (.int kk), .val (.int ss), .unset, .unset, .unset, .unset, .unset, .unset] [(.int (11 : Int32))]))
  obtain ⟨T5, h5, X5, e5, E5, A5, st5⟩ := own_newI XL4 hx hZ (hw _ (List.mem_of_getElem? (i := 12) rfl)) e3 (g := (mkF m 30 #[.val (.long q0), .second, .val (.int p1), .val (.int p2), .val (.int (f1_0 q0)), .val (.int kk), .val (.int ss), .unset, .unset, .unset, .unset, .unset, .unset] [(.int (11 : Int32))])) rfl (hb hby at_30) rfl (N := 11) (by decide) (by decide) (by decide) (by decide) rfl
  obtain ⟨b5, g5⟩ : ∃ z, z = h0.size := ⟨_, rfl⟩
  rw [← g5] at A5 st5
  have gn_b5 : n0 ≤ b5 := Nat.le_trans Z0 (Nat.le_of_eq g5.symm)
  have Z5 : n0 ≤ h5.size := Nat.le_trans Z0 E5.1
  refine own_step st5 ?_
  show own_Ends p e below s _ _ _ (T5.setTop (mkF m 32 #[.val (.long q0), .second, .val (.int p1), .val (.int p2), .val (.int (f1_0 q0)), .val (.int kk), .val (.int ss), .unset, .unset, .unset, .unset, .unset, .unset] [(.ref b5)]))
  refine own_step (fun t k => XS.astore X5.here hx rfl (hb hby at_32) rfl rfl (l' := #[.val (.long q0), .second, .val (.int p1), .val (.int p2), .val (.int (f1_0 q0)), .val (.int kk), .val (.int ss), .val (.ref b5), .unset, .unset, .unset, .unset, .unset]) rfl k) ?_
  show own_Ends p e below s _ _ _ (T5.setTop (mkF m 34 #[.val (.long q0), .second, .val (.int p1), .val (.int p2), .val (.int (f1_0 q0)), .val (.int kk), .val (.int ss), .val (.ref b5), .unset, .unset, .unset, .unset, .unset] []))
  refine own_step (fun t k => XS.aload X5.here hx rfl (hb hby at_34) rfl rfl k) ?_
  show own_Ends p e below s _ _ _ (T5.setTop (mkF m 36 #[.val (.long q0), .second, .val (.int p1), .val (.int p2), .val (.int (f1_0 q0)), .val (.int kk), .val (.int ss), .val (.ref b5), .unset, .unset, .unset, .unset, .unset] [(.ref b5)]))
  refine own_step (fun t k => XS.iconst X5.here hx rfl (hb hby at_36) k) ?_
  show own_Ends p e below s _ _ _ (T5.setTop (mkF m 37 #[.val (.long q0), .second, .val (.int p1), .val (.int p2), .val (.int (f1_0 q0)), .val (.int kk), .val (.int ss), .val (.ref b5), .unset, .unset, .unset, .unset, .unset] [(.int (0 : Int32)), (.ref b5)]))
  refine own_step (fun t k => XS.lloadN X5.here hx rfl (hb hby at_37) rfl k) ?_
  show own_Ends p e below s _ _ _ (T5.setTop (mkF m 38 #[.val (.long q0), .second, .val (.int p1), .val (.int p2), .val (.int (f1_0 q0)), .val (.int kk), .val (.int ss), .val (.ref b5), .unset, .unset, .unset, .unset, .unset] [(.long q0), (.int (0 : Int32)), (.ref b5)]))
  refine own_step (fun t k => XS.iconst X5.here hx rfl (hb hby at_38) k) ?_
  show own_Ends p e below s _ _ _ (T5.setTop (mkF m 39 #[.val (.long q0), .second, .val (.int p1), .val (.int p2), .val (.int (f1_0 q0)), .val (.int kk), .val (.int ss), .val (.ref b5), .unset, .unset, .unset, .unset, .unset] [(.int (0 : Int32)), (.long q0), (.int (0 : Int32)), (.ref b5)]))
  refine own_step (fun t k => XS.iload X5.here hx rfl (hb hby at_39) rfl k) ?_
  show own_Ends p e below s _ _ _ (T5.setTop (mkF m 41 #[.val (.long q0), .second, .val (.int p1), .val (.int p2), .val (.int (f1_0 q0)), .val (.int kk), .val (.int ss), .val (.ref b5), .unset, .unset, .unset, .unset, .unset] [(.int kk), (.int (0 : Int32)), (.long q0), (.int (0 : Int32)), (.ref b5)]))
  obtain ⟨_, _, ⟨T6, L6, k6, n6⟩, -, X6, ⟨Lc6, hQ6, l6, y6, z6⟩, st6⟩ := Jvm.LawKit.callS X5 hx (y := (⟨"com/example/weftline/weftline/runner/BodyVarintPinLaw", "enc", "(JII)B"⟩ : MethodName)) hown (mvT hZ (hw _ (List.mem_of_getElem? (i := 13) rfl))) (mvT hZ (hw _ (List.mem_of_getElem? (i := 14) rfl))) (mvT hZ (hw _ (List.mem_of_getElem? (i := 2) rfl))) (mvT hZ (hw _ (List.mem_of_getElem? (i := 15) rfl))) (by decide) (backOf (W := 2) (rm4 l Z a0 hw [] q0 (0 : Int32) kk  h5 n0  ) hZ (hw _ (List.mem_of_getElem? (i := 15) rfl)) (hw _ (List.mem_of_getElem? (i := 2) rfl)) (by decide) (by decide)) (g := (mkF m 41 #[.val (.long q0), .second, .val (.int p1), .val (.int p2), .val (.int (f1_0 q0)), .val (.int kk), .val (.int ss), .val (.ref b5), .unset, .unset, .unset, .unset, .unset] [(.int kk), (.int (0 : Int32)), (.long q0), (.int (0 : Int32)), (.ref b5)])) rfl (by rw [hml]; rfl) (argsL := [(.long q0), (.int (0 : Int32)), (.int kk)]) (rest := [(.int (0 : Int32)), (.ref b5)]) (lenOf pd0_2 rfl) rfl (by show 2 * 0 + _ ≤ _; exact Nat.le_of_eq rfl) (hb hby at_41) (fun _ _ => ⟨rfl, e5, (by decide : 1 + 0 ≤ _), (by decide : 11 + 0 ≤ _)⟩)
  dsimp only [Pt.U, Pt.locs, Pt.cells, Pt.slots] at X6 l6 y6 z6 st6 hQ6
  subst l6 y6 z6
  obtain ⟨rfl, N6q, e6⟩ := hQ6
  have N6 := Fr.app NL4 N6q
  refine own_step st6 ?_
  obtain ⟨LL7, XL7, NL7⟩ : ∃ LL, Stand p l e room_1 s m #[(.long q0), (.int p1), (.int p2)] below meth c T6 LL 1 11 ∧ Fr n0 LL := ⟨_, X6, N6⟩
  show own_Ends p e below s _ _ _ (T6.setTop (mkF m 44 #[.val (.long q0), .second, .val (.int p1), .val (.int p2), .val (.int (f1_0 q0)), .val (.int kk), .val (.int ss), .val (.ref b5), .unset, .unset, .unset, .unset, .unset] [(.int (f4_0 q0 (0 : Int32) kk)), (.int (0 : Int32)), (.ref b5)]))
  obtain ⟨T8, h8, X8, e8, W8, A8, st8⟩ := own_stB XL7 hx hZ e6 A5 0 (by decide) (by decide) (g := (mkF m 44 #[.val (.long q0), .second, .val (.int p1), .val (.int p2), .val (.int (f1_0 q0)), .val (.int kk), .val (.int ss), .val (.ref b5), .unset, .unset, .unset, .unset, .unset] [(.int (f4_0 q0 (0 : Int32) kk)), (.int (0 : Int32)), (.ref b5)])) rfl rfl (hb hby at_44)
  refine own_step st8 ?_
  have N8 := Fr.snoc X8 NL7 gn_b5
  have Z8 : n0 ≤ h8.size := by rw [W8.size]; exact Z5
  obtain ⟨LL9, XL9, NL9⟩ : ∃ LL, Stand p l e room_1 s m #[(.long q0), (.int p1), (.int p2)] below meth c T8 LL 1 11 ∧ Fr n0 LL := ⟨_, X8, N8⟩
  show own_Ends p e below s _ _ _ (T8.setTop (mkF m 45 #[.val (.long q0), .second, .val (.int p1), .val (.int p2), .val (.int (f1_0 q0)), .val (.int kk), .val (.int ss), .val (.ref b5), .unset, .unset, .unset, .unset, .unset] []))
  refine own_step (fun t k => XS.aload XL9.here hx rfl (hb hby at_45) rfl rfl k) ?_
  show own_Ends p e below s _ _ _ (T8.setTop (mkF m 47 #[.val (.long q0), .second, .val (.int p1), .val (.int p2), .val (.int (f1_0 q0)), .val (.int kk), .val (.int ss), .val (.ref b5), .unset, .unset, .unset, .unset, .unset] [(.ref b5)]))
  refine own_step (fun t k => XS.iconst XL9.here hx rfl (hb hby at_47) k) ?_
  show own_Ends p e below s _ _ _ (T8.setTop (mkF m 48 #[.val (.long q0), .second, .val (.int p1), .val (.int p2), .val (.int (f1_0 q0)), .val (.int kk), .val (.int ss), .val (.ref b5), .unset, .unset, .unset, .unset, .unset] [(.int (1 : Int32)), (.ref b5)]))
  refine own_step (fun t k => XS.lloadN XL9.here hx rfl (hb hby at_48) rfl k) ?_
  show own_Ends p e below s _ _ _ (T8.setTop (mkF m 49 #[.val (.long q0), .second, .val (.int p1), .val (.int p2), .val (.int (f1_0 q0)), .val (.int kk), .val (.int ss), .val (.ref b5), .unset, .unset, .unset, .unset, .unset] [(.long q0), (.int (1 : Int32)), (.ref b5)]))
  refine own_step (fun t k => XS.iconst XL9.here hx rfl (hb hby at_49) k) ?_
  show own_Ends p e below s _ _ _ (T8.setTop (mkF m 50 #[.val (.long q0), .second, .val (.int p1), .val (.int p2), .val (.int (f1_0 q0)), .val (.int kk), .val (.int ss), .val (.ref b5), .unset, .unset, .unset, .unset, .unset] [(.int (1 : Int32)), (.long q0), (.int (1 : Int32)), (.ref b5)]))
  refine own_step (fun t k => XS.iload XL9.here hx rfl (hb hby at_50) rfl k) ?_
  show own_Ends p e below s _ _ _ (T8.setTop (mkF m 52 #[.val (.long q0), .second, .val (.int p1), .val (.int p2), .val (.int (f1_0 q0)), .val (.int kk), .val (.int ss), .val (.ref b5), .unset, .unset, .unset, .unset, .unset] [(.int kk), (.int (1 : Int32)), (.long q0), (.int (1 : Int32)), (.ref b5)]))
  obtain ⟨_, _, ⟨T10, L10, k10, n10⟩, -, X10, ⟨Lc10, hQ10, l10, y10, z10⟩, st10⟩ := Jvm.LawKit.callS XL9 hx (y := (⟨"com/example/weftline/weftline/runner/BodyVarintPinLaw", "enc", "(JII)B"⟩ : MethodName)) hown (mvT hZ (hw _ (List.mem_of_getElem? (i := 13) rfl))) (mvT hZ (hw _ (List.mem_of_getElem? (i := 14) rfl))) (mvT hZ (hw _ (List.mem_of_getElem? (i := 2) rfl))) (mvT hZ (hw _ (List.mem_of_getElem? (i := 15) rfl))) (by decide) (backOf (W := 2) (rm4 l Z a0 hw [] q0 (1 : Int32) kk  h8 n0  ) hZ (hw _ (List.mem_of_getElem? (i := 15) rfl)) (hw _ (List.mem_of_getElem? (i := 2) rfl)) (by decide) (by decide)) (g := (mkF m 52 #[.val (.long q0), .second, .val (.int p1), .val (.int p2), .val (.int (f1_0 q0)), .val (.int kk), .val (.int ss), .val (.ref b5), .unset, .unset, .unset, .unset, .unset] [(.int kk), (.int (1 : Int32)), (.long q0), (.int (1 : Int32)), (.ref b5)])) rfl (by rw [hml]; rfl) (argsL := [(.long q0), (.int (1 : Int32)), (.int kk)]) (rest := [(.int (1 : Int32)), (.ref b5)]) (lenOf pd0_2 rfl) rfl (by show 2 * 0 + _ ≤ _; exact Nat.le_of_eq rfl) (hb hby at_52) (fun _ _ => ⟨rfl, e8, (by decide : 1 + 0 ≤ _), (by decide : 11 + 0 ≤ _)⟩)
  dsimp only [Pt.U, Pt.locs, Pt.cells, Pt.slots] at X10 l10 y10 z10 st10 hQ10
  subst l10 y10 z10
  obtain ⟨rfl, N10q, e10⟩ := hQ10
  have N10 := Fr.app NL9 N10q
  refine own_step st10 ?_
  obtain ⟨LL11, XL11, NL11⟩ : ∃ LL, Stand p l e room_1 s m #[(.long q0), (.int p1), (.int p2)] below meth c T10 LL 1 11 ∧ Fr n0 LL := ⟨_, X10, N10⟩
  show own_Ends p e below s _ _ _ (T10.setTop (mkF m 55 #[.val (.long q0), .second, .val (.int p1), .val (.int p2), .val (.int (f1_0 q0)), .val (.int kk), .val (.int ss), .val (.ref b5), .unset, .unset, .unset, .unset, .unset] [(.int (f4_0 q0 (1 : Int32) kk)), (.int (1 : Int32)), (.ref b5)]))
  obtain ⟨T12, h12, X12, e12, W12, A12, st12⟩ := own_stB XL11 hx hZ e10 A8 1 (by decide) (by decide) (g := (mkF m 55 #[.val (.long q0), .second, .val (.int p1), .val (.int p2), .val (.int (f1_0 q0)), .val (.int kk), .val (.int ss), .val (.ref b5), .unset, .unset, .unset, .unset, .unset] [(.int (f4_0 q0 (1 : Int32) kk)), (.int (1 : Int32)), (.ref b5)])) rfl rfl (hb hby at_55)
  refine own_step st12 ?_
  have N12 := Fr.snoc X12 NL11 gn_b5
  have Z12 : n0 ≤ h12.size := by rw [W12.size]; exact Z8
  obtain ⟨LL13, XL13, NL13⟩ : ∃ LL, Stand p l e room_1 s m #[(.long q0), (.int p1), (.int p2)] below meth c T12 LL 1 11 ∧ Fr n0 LL := ⟨_, X12, N12⟩
  show own_Ends p e below s _ _ _ (T12.setTop (mkF m 56 #[.val (.long q0), .second, .val (.int p1), .val (.int p2), .val (.int (f1_0 q0)), .val (.int kk), .val (.int ss), .val (.ref b5), .unset, .unset, .unset, .unset, .unset] []))
  refine own_step (fun t k => XS.aload XL13.here hx rfl (hb hby at_56) rfl rfl k) ?_
  show own_Ends p e below s _ _ _ (T12.setTop (mkF m 58 #[.val (.long q0), .second, .val (.int p1), .val (.int p2), .val (.int (f1_0 q0)), .val (.int kk), .val (.int ss), .val (.ref b5), .unset, .unset, .unset, .unset, .unset] [(.ref b5)]))
  refine own_step (fun t k => XS.iconst XL13.here hx rfl (hb hby at_58) k) ?_
  show own_Ends p e below s _ _ _ (T12.setTop (mkF m 59 #[.val (.long q0), .second, .val (.int p1), .val (.int p2), .val (.int (f1_0 q0)), .val (.int kk), .val (.int ss), .val (.ref b5), .unset, .unset, .unset, .unset, .unset] [(.int (2 : Int32)), (.ref b5)]))
  refine own_step (fun t k => XS.lloadN XL13.here hx rfl (hb hby at_59) rfl k) ?_
  show own_Ends p e below s _ _ _ (T12.setTop (mkF m 60 #[.val (.long q0), .second, .val (.int p1), .val (.int p2), .val (.int (f1_0 q0)), .val (.int kk), .val (.int ss), .val (.ref b5), .unset, .unset, .unset, .unset, .unset] [(.long q0), (.int (2 : Int32)), (.ref b5)]))
  refine own_step (fun t k => XS.iconst XL13.here hx rfl (hb hby at_60) k) ?_
  show own_Ends p e below s _ _ _ (T12.setTop (mkF m 61 #[.val (.long q0), .second, .val (.int p1), .val (.int p2), .val (.int (f1_0 q0)), .val (.int kk), .val (.int ss), .val (.ref b5), .unset, .unset, .unset, .unset, .unset] [(.int (2 : Int32)), (.long q0), (.int (2 : Int32)), (.ref b5)]))
  refine own_step (fun t k => XS.iload XL13.here hx rfl (hb hby at_61) rfl k) ?_
  show own_Ends p e below s _ _ _ (T12.setTop (mkF m 63 #[.val (.long q0), .second, .val (.int p1), .val (.int p2), .val (.int (f1_0 q0)), .val (.int kk), .val (.int ss), .val (.ref b5), .unset, .unset, .unset, .unset, .unset] [(.int kk), (.int (2 : Int32)), (.long q0), (.int (2 : Int32)), (.ref b5)]))
  obtain ⟨_, _, ⟨T14, L14, k14, n14⟩, -, X14, ⟨Lc14, hQ14, l14, y14, z14⟩, st14⟩ := Jvm.LawKit.callS XL13 hx (y := (⟨"com/example/weftline/weftline/runner/BodyVarintPinLaw", "enc", "(JII)B"⟩ : MethodName)) hown (mvT hZ (hw _ (List.mem_of_getElem? (i := 13) rfl))) (mvT hZ (hw _ (List.mem_of_getElem? (i := 14) rfl))) (mvT hZ (hw _ (List.mem_of_getElem? (i := 2) rfl))) (mvT hZ (hw _ (List.mem_of_getElem? (i := 15) rfl))) (by decide) (backOf (W := 2) (rm4 l Z a0 hw [] q0 (2 : Int32) kk  h12 n0  ) hZ (hw _ (List.mem_of_getElem? (i := 15) rfl)) (hw _ (List.mem_of_getElem? (i := 2) rfl)) (by decide) (by decide)) (g := (mkF m 63 #[.val (.long q0), .second, .val (.int p1), .val (.int p2), .val (.int (f1_0 q0)), .val (.int kk), .val (.int ss), .val (.ref b5), .unset, .unset, .unset, .unset, .unset] [(.int kk), (.int (2 : Int32)), (.long q0), (.int (2 : Int32)), (.ref b5)])) rfl (by rw [hml]; rfl) (argsL := [(.long q0), (.int (2 : Int32)), (.int kk)]) (rest := [(.int (2 : Int32)), (.ref b5)]) (lenOf pd0_2 rfl) rfl (by show 2 * 0 + _ ≤ _; exact Nat.le_of_eq rfl) (hb hby at_63) (fun _ _ => ⟨rfl, e12, (by decide : 1 + 0 ≤ _), (by decide : 11 + 0 ≤ _)⟩)
  dsimp only [Pt.U, Pt.locs, Pt.cells, Pt.slots] at X14 l14 y14 z14 st14 hQ14
  subst l14 y14 z14
  obtain ⟨rfl, N14q, e14⟩ := hQ14
  have N14 := Fr.app NL13 N14q
  refine own_step st14 ?_
  obtain ⟨LL15, XL15, NL15⟩ : ∃ LL, Stand p l e room_1 s m #[(.long q0), (.int p1), (.int p2)] below meth c T14 LL 1 11 ∧ Fr n0 LL := ⟨_, X14, N14⟩
  show own_Ends p e below s _ _ _ (T14.setTop (mkF m 66 #[.val (.long q0), .second, .val (.int p1), .val (.int p2), .val (.int (f1_0 q0)), .val (.int kk), .val (.int ss), .val (.ref b5), .unset, .unset, .unset, .unset, .unset] [(.int (f4_0 q0 (2 : Int32) kk)), (.int (2 : Int32)), (.ref b5)]))
  obtain ⟨T16, h16, X16, e16, W16, A16, st16⟩ := own_stB XL15 hx hZ e14 A12 2 (by decide) (by decide) (g := (mkF m 66 #[.val (.long q0), .second, .val (.int p1), .val (.int p2), .val (.int (f1_0 q0)), .val (.int kk), .val (.int ss), .val (.ref b5), .unset, .unset, .unset, .unset, .unset] [(.int (f4_0 q0 (2 : Int32) kk)), (.int (2 : Int32)), (.ref b5)])) rfl rfl (hb hby at_66)
  refine own_step st16 ?_
  have N16 := Fr.snoc X16 NL15 gn_b5
  have Z16 : n0 ≤ h16.size := by rw [W16.size]; exact Z12
  obtain ⟨LL17, XL17, NL17⟩ : ∃ LL, Stand p l e room_1 s m #[(.long q0), (.int p1), (.int p2)] below meth c T16 LL 1 11 ∧ Fr n0 LL := ⟨_, X16, N16⟩
  show own_Ends p e below s _ _ _ (T16.setTop (mkF m 67 #[.val (.long q0), .second, .val (.int p1), .val (.int p2), .val (.int (f1_0 q0)), .val (.int kk), .val (.int ss), .val (.ref b5), .unset, .unset, .unset, .unset, .unset] []))
  refine own_step (fun t k => XS.aload XL17.here hx rfl (hb hby at_67) rfl rfl k) ?_
  show own_Ends p e below s _ _ _ (T16.setTop (mkF m 69 #[.val (.long q0), .second, .val (.int p1), .val (.int p2), .val (.int (f1_0 q0)), .val (.int kk), .val (.int ss), .val (.ref b5), .unset, .unset, .unset, .unset, .unset] [(.ref b5)]))
  refine own_step (fun t k => XS.iconst XL17.here hx rfl (hb hby at_69) k) ?_
  show own_Ends p e below s _ _ _ (T16.setTop (mkF m 70 #[.val (.long q0), .second, .val (.int p1), .val (.int p2), .val (.int (f1_0 q0)), .val (.int kk), .val (.int ss), .val (.ref b5), .unset, .unset, .unset, .unset, .unset] [(.int (3 : Int32)), (.ref b5)]))
  refine own_step (fun t k => XS.lloadN XL17.here hx rfl (hb hby at_70) rfl k) ?_
  show own_Ends p e below s _ _ _ (T16.setTop (mkF m 71 #[.val (.long q0), .second, .val (.int p1), .val (.int p2), .val (.int (f1_0 q0)), .val (.int kk), .val (.int ss), .val (.ref b5), .unset, .unset, .unset, .unset, .unset] [(.long q0), (.int (3 : Int32)), (.ref b5)]))
  refine own_step (fun t k => XS.iconst XL17.here hx rfl (hb hby at_71) k) ?_
  show own_Ends p e below s _ _ _ (T16.setTop (mkF m 72 #[.val (.long q0), .second, .val (.int p1), .val (.int p2), .val (.int (f1_0 q0)), .val (.int kk), .val (.int ss), .val (.ref b5), .unset, .unset, .unset, .unset, .unset] [(.int (3 : Int32)), (.long q0), (.int (3 : Int32)), (.ref b5)]))
  refine own_step (fun t k => XS.iload XL17.here hx rfl (hb hby at_72) rfl k) ?_
  show own_Ends p e below s _ _ _ (T16.setTop (mkF m 74 #[.val (.long q0), .second, .val (.int p1), .val (.int p2), .val (.int (f1_0 q0)), .val (.int kk), .val (.int ss), .val (.ref b5), .unset, .unset, .unset, .unset, .unset] [(.int kk), (.int (3 : Int32)), (.long q0), (.int (3 : Int32)), (.ref b5)]))
  obtain ⟨_, _, ⟨T18, L18, k18, n18⟩, -, X18, ⟨Lc18, hQ18, l18, y18, z18⟩, st18⟩ := Jvm.LawKit.callS XL17 hx (y := (⟨"com/example/weftline/weftline/runner/BodyVarintPinLaw", "enc", "(JII)B"⟩ : MethodName)) hown (mvT hZ (hw _ (List.mem_of_getElem? (i := 13) rfl))) (mvT hZ (hw _ (List.mem_of_getElem? (i := 14) rfl))) (mvT hZ (hw _ (List.mem_of_getElem? (i := 2) rfl))) (mvT hZ (hw _ (List.mem_of_getElem? (i := 15) rfl))) (by decide) (backOf (W := 2) (rm4 l Z a0 hw [] q0 (3 : Int32) kk  h16 n0  ) hZ (hw _ (List.mem_of_getElem? (i := 15) rfl)) (hw _ (List.mem_of_getElem? (i := 2) rfl)) (by decide) (by decide)) (g := (mkF m 74 #[.val (.long q0), .second, .val (.int p1), .val (.int p2), .val (.int (f1_0 q0)), .val (.int kk), .val (.int ss), .val (.ref b5), .unset, .unset, .unset, .unset, .unset] [(.int kk), (.int (3 : Int32)), (.long q0), (.int (3 : Int32)), (.ref b5)])) rfl (by rw [hml]; rfl) (argsL := [(.long q0), (.int (3 : Int32)), (.int kk)]) (rest := [(.int (3 : Int32)), (.ref b5)]) (lenOf pd0_2 rfl) rfl (by show 2 * 0 + _ ≤ _; exact Nat.le_of_eq rfl) (hb hby at_74) (fun _ _ => ⟨rfl, e16, (by decide : 1 + 0 ≤ _), (by decide : 11 + 0 ≤ _)⟩)
  dsimp only [Pt.U, Pt.locs, Pt.cells, Pt.slots] at X18 l18 y18 z18 st18 hQ18
  subst l18 y18 z18
  obtain ⟨rfl, N18q, e18⟩ := hQ18
  have N18 := Fr.app NL17 N18q
  refine own_step st18 ?_
  obtain ⟨LL19, XL19, NL19⟩ : ∃ LL, Stand p l e room_1 s m #[(.long q0), (.int p1), (.int p2)] below meth c T18 LL 1 11 ∧ Fr n0 LL := ⟨_, X18, N18⟩
  show own_Ends p e below s _ _ _ (T18.setTop (mkF m 77 #[.val (.long q0), .second, .val (.int p1), .val (.int p2), .val (.int (f1_0 q0)), .val (.int kk), .val (.int ss), .val (.ref b5), .unset, .unset, .unset, .unset, .unset] [(.int (f4_0 q0 (3 : Int32) kk)), (.int (3 : Int32)), (.ref b5)]))
  obtain ⟨T20, h20, X20, e20, W20, A20, st20⟩ := own_stB XL19 hx hZ e18 A16 3 (by decide) (by decide) (g := (mkF m 77 #[.val (.long q0), .second, .val (.int p1), .val (.int p2), .val (.int (f1_0 q0)), .val (.int kk), .val (.int ss), .val (.ref b5), .unset, .unset, .unset, .unset, .unset] [(.int (f4_0 q0 (3 : Int32) kk)), (.int (3 : Int32)), (.ref b5)])) rfl rfl (hb hby at_77)
  refine own_step st20 ?_
  have N20 := Fr.snoc X20 NL19 gn_b5
  have Z20 : n0 ≤ h20.size := by rw [W20.size]; exact Z16
  obtain ⟨LL21, XL21, NL21⟩ : ∃ LL, Stand p l e room_1 s m #[(.long q0), (.int p1), (.int p2)] below meth c T20 LL 1 11 ∧ Fr n0 LL := ⟨_, X20, N20⟩
  show own_Ends p e below s _ _ _ (T20.setTop (mkF m 78 #[.val (.long q0), .second, .val (.int p1), .val (.int p2), .val (.int (f1_0 q0)), .val (.int kk), .val (.int ss), .val (.ref b5), .unset, .unset, .unset, .unset, .unset] []))
  refine own_step (fun t k => XS.aload XL21.here hx rfl (hb hby at_78) rfl rfl k) ?_
  show own_Ends p e below s _ _ _ (T20.setTop (mkF m 80 #[.val (.long q0), .second, .val (.int p1), .val (.int p2), .val (.int (f1_0 q0)), .val (.int kk), .val (.int ss), .val (.ref b5), .unset, .unset, .unset, .unset, .unset] [(.ref b5)]))
  refine own_step (fun t k => XS.iconst XL21.here hx rfl (hb hby at_80) k) ?_
  show own_Ends p e below s _ _ _ (T20.setTop (mkF m 81 #[.val (.long q0), .second, .val (.int p1), .val (.int p2), .val (.int (f1_0 q0)), .val (.int kk), .val (.int ss), .val (.ref b5), .unset, .unset, .unset, .unset, .unset] [(.int (4 : Int32)), (.ref b5)]))
  refine own_step (fun t k => XS.lloadN XL21.here hx rfl (hb hby at_81) rfl k) ?_
  show own_Ends p e below s _ _ _ (T20.setTop (mkF m 82 #[.val (.long q0), .second, .val (.int p1), .val (.int p2), .val (.int (f1_0 q0)), .val (.int kk), .val (.int ss), .val (.ref b5), .unset, .unset, .unset, .unset, .unset] [(.long q0), (.int (4 : Int32)), (.ref b5)]))
  refine own_step (fun t k => XS.iconst XL21.here hx rfl (hb hby at_82) k) ?_
  show own_Ends p e below s _ _ _ (T20.setTop (mkF m 83 #[.val (.long q0), .second, .val (.int p1), .val (.int p2), .val (.int (f1_0 q0)), .val (.int kk), .val (.int ss), .val (.ref b5), .unset, .unset, .unset, .unset, .unset] [(.int (4 : Int32)), (.long q0), (.int (4 : Int32)), (.ref b5)]))
  refine own_step (fun t k => XS.iload XL21.here hx rfl (hb hby at_83) rfl k) ?_
  show own_Ends p e below s _ _ _ (T20.setTop (mkF m 85 #[.val (.long q0), .second, .val (.int p1), .val (.int p2), .val (.int (f1_0 q0)), .val (.int kk), .val (.int ss), .val (.ref b5), .unset, .unset, .unset, .unset, .unset] [(.int kk), (.int (4 : Int32)), (.long q0), (.int (4 : Int32)), (.ref b5)]))
  obtain ⟨_, _, ⟨T22, L22, k22, n22⟩, -, X22, ⟨Lc22, hQ22, l22, y22, z22⟩, st22⟩ := Jvm.LawKit.callS XL21 hx (y := (⟨"com/example/weftline/weftline/runner/BodyVarintPinLaw", "enc", "(JII)B"⟩ : MethodName)) hown (mvT hZ (hw _ (List.mem_of_getElem? (i := 13) rfl))) (mvT hZ (hw _ (List.mem_of_getElem? (i := 14) rfl))) (mvT hZ (hw _ (List.mem_of_getElem? (i := 2) rfl))) (mvT hZ (hw _ (List.mem_of_getElem? (i := 15) rfl))) (by decide) (backOf (W := 2) (rm4 l Z a0 hw [] q0 (4 : Int32) kk  h20 n0  ) hZ (hw _ (List.mem_of_getElem? (i := 15) rfl)) (hw _ (List.mem_of_getElem? (i := 2) rfl)) (by decide) (by decide)) (g := (mkF m 85 #[.val (.long q0), .second, .val (.int p1), .val (.int p2), .val (.int (f1_0 q0)), .val (.int kk), .val (.int ss), .val (.ref b5), .unset, .unset, .unset, .unset, .unset] [(.int kk), (.int (4 : Int32)), (.long q0), (.int (4 : Int32)), (.ref b5)])) rfl (by rw [hml]; rfl) (argsL := [(.long q0), (.int (4 : Int32)), (.int kk)]) (rest := [(.int (4 : Int32)), (.ref b5)]) (lenOf pd0_2 rfl) rfl (by show 2 * 0 + _ ≤ _; exact Nat.le_of_eq rfl) (hb hby at_85) (fun _ _ => ⟨rfl, e20, (by decide : 1 + 0 ≤ _), (by decide : 11 + 0 ≤ _)⟩)
  dsimp only [Pt.U, Pt.locs, Pt.cells, Pt.slots] at X22 l22 y22 z22 st22 hQ22
  subst l22 y22 z22
  obtain ⟨rfl, N22q, e22⟩ := hQ22
  have N22 := Fr.app NL21 N22q
  refine own_step st22 ?_
  obtain ⟨LL23, XL23, NL23⟩ : ∃ LL, Stand p l e room_1 s m #[(.long q0), (.int p1), (.int p2)] below meth c T22 LL 1 11 ∧ Fr n0 LL := ⟨_, X22, N22⟩
  show own_Ends p e below s _ _ _ (T22.setTop (mkF m 88 #[.val (.long q0), .second, .val (.int p1), .val (.int p2), .val (.int (f1_0 q0)), .val (.int kk), .val (.int ss), .val (.ref b5), .unset, .unset, .unset, .unset, .unset] [(.int (f4_0 q0 (4 : Int32) kk)), (.int (4 : Int32)), (.ref b5)]))
  obtain ⟨T24, h24, X24, e24, W24, A24, st24⟩ := own_stB XL23 hx hZ e22 A20 4 (by decide) (by decide) (g := (mkF m 88 #[.val (.long q0), .second, .val (.int p1), .val (.int p2), .val (.int (f1_0 q0)), .val (.int kk), .val (.int ss), .val (.ref b5), .unset, .unset, .unset, .unset, .unset] [(.int (f4_0 q0 (4 : Int32) kk)), (.int (4 : Int32)), (.ref b5)])) rfl rfl (hb hby at_88)
  refine own_step st24 ?_
  have N24 := Fr.snoc X24 NL23 gn_b5
  have Z24 : n0 ≤ h24.size := by rw [W24.size]; exact Z20
  obtain ⟨LL25, XL25, NL25⟩ : ∃ LL, Stand p l e room_1 s m #[(.long q0), (.int p1), (.int p2)] below meth c T24 LL 1 11 ∧ Fr n0 LL := ⟨_, X24, N24⟩
  show own_Ends p e below s _ _ _ (T24.setTop (mkF m 89 #[.val (.long q0), .second, .val (.int p1), .val (.int p2), .val (.int (f1_0 q0)), .val (.int kk), .val (.int ss), .val (.ref b5), .unset, .unset, .unset, .unset, .unset] []))
  refine own_step (fun t k => XS.aload XL25.here hx rfl (hb hby at_89) rfl rfl k) ?_
  show own_Ends p e below s _ _ _ (T24.setTop (mkF m 91 #[.val (.long q0), .second, .val (.int p1), .val (.int p2), .val (.int (f1_0 q0)), .val (.int kk), .val (.int ss), .val (.ref b5), .unset, .unset, .unset, .unset, .unset] [(.ref b5)]))
  refine own_step (fun t k => XS.iconst XL25.here hx rfl (hb hby at_91) k) ?_
  show own_Ends p e below s _ _ _ (T24.setTop (mkF m 92 #[.val (.long q0), .second, .val (.int p1), .val (.int p2), .val (.int (f1_0 q0)), .val (.int kk), .val (.int ss), .val (.ref b5), .unset, .unset, .unset, .unset, .unset] [(.int (5 : Int32)), (.ref b5)]))
  refine own_step (fun t k => XS.lloadN XL25.here hx rfl (hb hby at_92) rfl k) ?_
  show own_Ends p e below s _ _ _ (T24.setTop (mkF m 93 #[.val (.long q0), .second, .val (.int p1), .val (.int p2), .val (.int (f1_0 q0)), .val (.int kk), .val (.int ss), .val (.ref b5), .unset, .unset, .unset, .unset, .unset] [(.long q0), (.int (5 : Int32)), (.ref b5)]))
  refine own_step (fun t k => XS.iconst XL25.here hx rfl (hb hby at_93) k) ?_
  show own_Ends p e below s _ _ _ (T24.setTop (mkF m 94 #[.val (.long q0), .second, .val (.int p1), .val (.int p2), .val (.int (f1_0 q0)), .val (.int kk), .val (.int ss), .val (.ref b5), .unset, .unset, .unset, .unset, .unset] [(.int (5 : Int32)), (.long q0), (.int (5 : Int32)), (.ref b5)]))
  refine own_step (fun t k => XS.iload XL25.here hx rfl (hb hby at_94) rfl k) ?_
  show own_Ends p e below s _ _ _ (T24.setTop (mkF m 96 #[.val (.long q0), .second, .val (.int p1), .val (.int p2), .val (.int (f1_0 q0)), .val (.int kk), .val (.int ss), .val (.ref b5), .unset, .unset, .unset, .unset, .unset] [(.int kk), (.int (5 : Int32)), (.long q0), (.int (5 : Int32)), (.ref b5)]))
  obtain ⟨_, _, ⟨T26, L26, k26, n26⟩, -, X26, ⟨Lc26, hQ26, l26, y26, z26⟩, st26⟩ := Jvm.LawKit.callS XL25 hx (y := (⟨"com/example/weftline/weftline/runner/BodyVarintPinLaw", "enc", "(JII)B"⟩ : MethodName)) hown (mvT hZ (hw _ (List.mem_of_getElem? (i := 13) rfl))) (mvT hZ (hw _ (List.mem_of_getElem? (i := 14) rfl))) (mvT hZ (hw _ (List.mem_of_getElem? (i := 2) rfl))) (mvT hZ (hw _ (List.mem_of_getElem? (i := 15) rfl))) (by decide) (backOf (W := 2) (rm4 l Z a0 hw [] q0 (5 : Int32) kk  h24 n0  ) hZ (hw _ (List.mem_of_getElem? (i := 15) rfl)) (hw _ (List.mem_of_getElem? (i := 2) rfl)) (by decide) (by decide)) (g := (mkF m 96 #[.val (.long q0), .second, .val (.int p1), .val (.int p2), .val (.int (f1_0 q0)), .val (.int kk), .val (.int ss), .val (.ref b5), .unset, .unset, .unset, .unset, .unset] [(.int kk), (.int (5 : Int32)), (.long q0), (.int (5 : Int32)), (.ref b5)])) rfl (by rw [hml]; rfl) (argsL := [(.long q0), (.int (5 : Int32)), (.int kk)]) (rest := [(.int (5 : Int32)), (.ref b5)]) (lenOf pd0_2 rfl) rfl (by show 2 * 0 + _ ≤ _; exact Nat.le_of_eq rfl) (hb hby at_96) (fun _ _ => ⟨rfl, e24, (by decide : 1 + 0 ≤ _), (by decide : 11 + 0 ≤ _)⟩)
  dsimp only [Pt.U, Pt.locs, Pt.cells, Pt.slots] at X26 l26 y26 z26 st26 hQ26
  subst l26 y26 z26
  obtain ⟨rfl, N26q, e26⟩ := hQ26
  have N26 := Fr.app NL25 N26q
  refine own_step st26 ?_
  obtain ⟨LL27, XL27, NL27⟩ : ∃ LL, Stand p l e room_1 s m #[(.long q0), (.int p1), (.int p2)] below meth c T26 LL 1 11 ∧ Fr n0 LL := ⟨_, X26, N26⟩
  show own_Ends p e below s _ _ _ (T26.setTop (mkF m 99 #[.val (.long q0), .second, .val (.int p1), .val (.int p2), .val (.int (f1_0 q0)), .val (.int kk), .val (.int ss), .val (.ref b5), .unset, .unset, .unset, .unset, .unset] [(.int (f4_0 q0 (5 : Int32) kk)), (.int (5 : Int32)), (.ref b5)]))
  obtain ⟨T28, h28, X28, e28, W28, A28, st28⟩ := own_stB XL27 hx hZ e26 A24 5 (by decide) (by decide) (g := (mkF m 99 #[.val (.long q0), .second, .val (.int p1), .val (.int p2), .val (.int (f1_0 q0)), .val (.int kk), .val (.int ss), .val (.ref b5), .unset, .unset, .unset, .unset, .unset] [(.int (f4_0 q0 (5 : Int32) kk)), (.int (5 : Int32)), (.ref b5)])) rfl rfl (hb hby at_99)
  refine own_step st28 ?_
  have N28 := Fr.snoc X28 NL27 gn_b5
  have Z28 : n0 ≤ h28.size := by rw [W28.size]; exact Z24
  obtain ⟨LL29, XL29, NL29⟩ : ∃ LL, Stand p l e room_1 s m #[(.long q0), (.int p1), (.int p2)] below meth c T28 LL 1 11 ∧ Fr n0 LL := ⟨_, X28, N28⟩
  show own_Ends p e below s _ _ _ (T28.setTop (mkF m 100 #[.val (.long q0), .second, .val (.int p1), .val (.int p2), .val (.int (f1_0 q0)), .val (.int kk), .val (.int ss), .val (.ref b5), .unset, .unset, .unset, .unset, .unset] []))
  refine own_step (fun t k => XS.aload XL29.here hx rfl (hb hby at_100) rfl rfl k) ?_
  show own_Ends p e below s _ _ _ (T28.setTop (mkF m 102 #[.val (.long q0), .second, .val (.int p1), .val (.int p2), .val (.int (f1_0 q0)), .val (.int kk), .val (.int ss), .val (.ref b5), .unset, .unset, .unset, .unset, .unset] [(.ref b5)]))
  refine own_step (fun t k => XS.bipush XL29.here hx rfl (hb hby at_102) k) ?_
  show own_Ends p e below s _ _ _ (T28.setTop (mkF m 104 #[.val (.long q0), .second, .val (.int p1), .val (.int p2), .val (.int (f1_0 q0)), .val (.int kk), .val (.int ss), .val (.ref b5), .unset, .unset, .unset, .unset, .unset] [(.int (6 : Int32)), (.ref b5)]))
  refine own_step (fun t k => XS.lloadN XL29.here hx rfl (hb hby at_104) rfl k) ?_
  show own_Ends p e below s _ _ _ (T28.setTop (mkF m 105 #[.val (.long q0), .second, .val (.int p1), .val (.int p2), .val (.int (f1_0 q0)), .val (.int kk), .val (.int ss), .val (.ref b5), .unset, .unset, .unset, .unset, .unset] [(.long q0), (.int (6 : Int32)), (.ref b5)]))
  refine own_step (fun t k => XS.bipush XL29.here hx rfl (hb hby at_105) k) ?_
  show own_Ends p e below s _ _ _ (T28.setTop (mkF m 107 #[.val (.long q0), .second, .val (.int p1), .val (.int p2), .val (.int (f1_0 q0)), .val (.int kk), .val (.int ss), .val (.ref b5), .unset, .unset, .unset, .unset, .unset] [(.int (6 : Int32)), (.long q0), (.int (6 : Int32)), (.ref b5)]))
  refine own_step (fun t k => XS.iload XL29.here hx rfl (hb hby at_107) rfl k) ?_
  show own_Ends p e below s _ _ _ (T28.setTop (mkF m 109 #[.val (.long q0), .second, .val (.int p1), .val (.int p2), .val (.int (f1_0 q0)), .val (.int kk), .val (.int ss), .val (.ref b5), .unset, .unset, .unset, .unset, .unset] [(.int kk), (.int (6 : Int32)), (.long q0), (.int (6 : Int32)), (.ref b5)]))
  obtain ⟨_, _, ⟨T30, L30, k30, n30⟩, -, X30, ⟨Lc30, hQ30, l30, y30, z30⟩, st30⟩ := Jvm.LawKit.callS XL29 hx (y := (⟨"com/example/weftline/weftline/runner/BodyVarintPinLaw", "enc", "(JII)B"⟩ : MethodName)) hown (mvT hZ (hw _ (List.mem_of_getElem? (i := 13) rfl))) (mvT hZ (hw _ (List.mem_of_getElem? (i := 14) rfl))) (mvT hZ (hw _ (List.mem_of_getElem? (i := 2) rfl))) (mvT hZ (hw _ (List.mem_of_getElem? (i := 15) rfl))) (by decide) (backOf (W := 2) (rm4 l Z a0 hw [] q0 (6 : Int32) kk  h28 n0  ) hZ (hw _ (List.mem_of_getElem? (i := 15) rfl)) (hw _ (List.mem_of_getElem? (i := 2) rfl)) (by decide) (by decide)) (g := (mkF m 109 #[.val (.long q0), .second, .val (.int p1), .val (.int p2), .val (.int (f1_0 q0)), .val (.int kk), .val (.int ss), .val (.ref b5), .unset, .unset, .unset, .unset, .unset] [(.int kk), (.int (6 : Int32)), (.long q0), (.int (6 : Int32)), (.ref b5)])) rfl (by rw [hml]; rfl) (argsL := [(.long q0), (.int (6 : Int32)), (.int kk)]) (rest := [(.int (6 : Int32)), (.ref b5)]) (lenOf pd0_2 rfl) rfl (by show 2 * 0 + _ ≤ _; exact Nat.le_of_eq rfl) (hb hby at_109) (fun _ _ => ⟨rfl, e28, (by decide : 1 + 0 ≤ _), (by decide : 11 + 0 ≤ _)⟩)
  dsimp only [Pt.U, Pt.locs, Pt.cells, Pt.slots] at X30 l30 y30 z30 st30 hQ30
  subst l30 y30 z30
  obtain ⟨rfl, N30q, e30⟩ := hQ30
  have N30 := Fr.app NL29 N30q
  refine own_step st30 ?_
  obtain ⟨LL31, XL31, NL31⟩ : ∃ LL, Stand p l e room_1 s m #[(.long q0), (.int p1), (.int p2)] below meth c T30 LL 1 11 ∧ Fr n0 LL := ⟨_, X30, N30⟩
  show own_Ends p e below s _ _ _ (T30.setTop (mkF m 112 #[.val (.long q0), .second, .val (.int p1), .val (.int p2), .val (.int (f1_0 q0)), .val (.int kk), .val (.int ss), .val (.ref b5), .unset, .unset, .unset, .unset, .unset] [(.int (f4_0 q0 (6 : Int32) kk)), (.int (6 : Int32)), (.ref b5)]))
  obtain ⟨T32, h32, X32, e32, W32, A32, st32⟩ := own_stB XL31 hx hZ e30 A28 6 (by decide) (by decide) (g := (mkF m 112 #[.val (.long q0), .second, .val (.int p1), .val (.int p2), .val (.int (f1_0 q0)), .val (.int kk), .val (.int ss), .val (.ref b5), .unset, .unset, .unset, .unset, .unset] [(.int (f4_0 q0 (6 : Int32) kk)), (.int (6 : Int32)), (.ref b5)])) rfl rfl (hb hby at_112)
  refine own_step st32 ?_
  have N32 := Fr.snoc X32 NL31 gn_b5
  have Z32 : n0 ≤ h32.size := by rw [W32.size]; exact Z28
  obtain ⟨LL33, XL33, NL33⟩ : ∃ LL, Stand p l e room_1 s m #[(.long q0), (.int p1), (.int p2)] below meth c T32 LL 1 11 ∧ Fr n0 LL := ⟨_, X32, N32⟩
  show own_Ends p e below s _ _ _ (T32.setTop (mkF m 113 #[.val (.long q0), .second, .val (.int p1), .val (.int p2), .val (.int (f1_0 q0)), .val (.int kk), .val (.int ss), .val (.ref b5), .unset, .unset, .unset, .unset, .unset] []))
  refine own_step (fun t k => XS.aload XL33.here hx rfl (hb hby at_113) rfl rfl k) ?_
  show own_Ends p e below s _ _ _ (T32.setTop (mkF m 115 #[.val (.long q0), .second, .val (.int p1), .val (.int p2), .val (.int (f1_0 q0)), .val (.int kk), .val (.int ss), .val (.ref b5), .unset, .unset, .unset, .unset, .unset] [(.ref b5)]))
  refine own_step (fun t k => XS.bipush XL33.here hx rfl (hb hby at_115) k) ?_
  show own_Ends p e below s _ _ _ (T32.setTop (mkF m 117 #[.val (.long q0), .second, .val (.int p1), .val (.int p2), .val (.int (f1_0 q0)), .val (.int kk), .val (.int ss), .val (.ref b5), .unset, .unset, .unset, .unset, .unset] [(.int (7 : Int32)), (.ref b5)]))
  refine own_step (fun t k => XS.lloadN XL33.here hx rfl (hb hby at_117) rfl k) ?_
  show own_Ends p e below s _ _ _ (T32.setTop (mkF m 118 #[.val (.long q0), .second, .val (.int p1), .val (.int p2), .val (.int (f1_0 q0)), .val (.int kk), .val (.int ss), .val (.ref b5), .unset, .unset, .unset, .unset, .unset] [(.long q0), (.int (7 : Int32)), (.ref b5)]))
  refine own_step (fun t k => XS.bipush XL33.here hx rfl (hb hby at_118) k) ?_
  show own_Ends p e below s _ _ _ (T32.setTop (mkF m 120 #[.val (.long q0), .second, .val (.int p1), .val (.int p2), .val (.int (f1_0 q0)), .val (.int kk), .val (.int ss), .val (.ref b5), .unset, .unset, .unset, .unset, .unset] [(.int (7 : Int32)), (.long q0), (.int (7 : Int32)), (.ref b5)]))
  refine own_step (fun t k => XS.iload XL33.here hx rfl (hb hby at_120) rfl k) ?_
  show own_Ends p e below s _ _ _ (T32.setTop (mkF m 122 #[.val (.long q0), .second, .val (.int p1), .val (.int p2), .val (.int (f1_0 q0)), .val (.int kk), .val (.int ss), .val (.ref b5), .unset, .unset, .unset, .unset, .unset] [(.int kk), (.int (7 : Int32)), (.long q0), (.int (7 : Int32)), (.ref b5)]))
  obtain ⟨_, _, ⟨T34, L34, k34, n34⟩, -, X34, ⟨Lc34, hQ34, l34, y34, z34⟩, st34⟩ := Jvm.LawKit.callS XL33 hx (y := (⟨"com/example/weftline/weftline/runner/BodyVarintPinLaw", "enc", "(JII)B"⟩ : MethodName)) hown (mvT hZ (hw _ (List.mem_of_getElem? (i := 13) rfl))) (mvT hZ (hw _ (List.mem_of_getElem? (i := 14) rfl))) (mvT hZ (hw _ (List.mem_of_getElem? (i := 2) rfl))) (mvT hZ (hw _ (List.mem_of_getElem? (i := 15) rfl))) (by decide) (backOf (W := 2) (rm4 l Z a0 hw [] q0 (7 : Int32) kk  h32 n0  ) hZ (hw _ (List.mem_of_getElem? (i := 15) rfl)) (hw _ (List.mem_of_getElem? (i := 2) rfl)) (by decide) (by decide)) (g := (mkF m 122 #[.val (.long q0), .second, .val (.int p1), .val (.int p2), .val (.int (f1_0 q0)), .val (.int kk), .val (.int ss), .val (.ref b5), .unset, .unset, .unset, .unset, .unset] [(.int kk), (.int (7 : Int32)), (.long q0), (.int (7 : Int32)), (.ref b5)])) rfl (by rw [hml]; rfl) (argsL := [(.long q0), (.int (7 : Int32)), (.int kk)]) (rest := [(.int (7 : Int32)), (.ref b5)]) (lenOf pd0_2 rfl) rfl (by show 2 * 0 + _ ≤ _; exact Nat.le_of_eq rfl) (hb hby at_122) (fun _ _ => ⟨rfl, e32, (by decide : 1 + 0 ≤ _), (by decide : 11 + 0 ≤ _)⟩)
  dsimp only [Pt.U, Pt.locs, Pt.cells, Pt.slots] at X34 l34 y34 z34 st34 hQ34
  subst l34 y34 z34
  obtain ⟨rfl, N34q, e34⟩ := hQ34
  have N34 := Fr.app NL33 N34q
  refine own_step st34 ?_
  obtain ⟨LL35, XL35, NL35⟩ : ∃ LL, Stand p l e room_1 s m #[(.long q0), (.int p1), (.int p2)] below meth c T34 LL 1 11 ∧ Fr n0 LL := ⟨_, X34, N34⟩
  show own_Ends p e below s _ _ _ (T34.setTop (mkF m 125 #[.val (.long q0), .second, .val (.int p1), .val (.int p2), .val (.int (f1_0 q0)), .val (.int kk), .val (.int ss), .val (.ref b5), .unset, .unset, .unset, .unset, .unset] [(.int (f4_0 q0 (7 : Int32) kk)), (.int (7 : Int32)), (.ref b5)]))
  obtain ⟨T36, h36, X36, e36, W36, A36, st36⟩ := own_stB XL35 hx hZ e34 A32 7 (by decide) (by decide) (g := (mkF m 125 #[.val (.long q0), .second, .val (.int p1), .val (.int p2), .val (.int (f1_0 q0)), .val (.int kk), .val (.int ss), .val (.ref b5), .unset, .unset, .unset, .unset, .unset] [(.int (f4_0 q0 (7 : Int32) kk)), (.int (7 : Int32)), (.ref b5)])) rfl rfl (hb hby at_125)
  refine own_step st36 ?_
  have N36 := Fr.snoc X36 NL35 gn_b5
  have Z36 : n0 ≤ h36.size := by rw [W36.size]; exact Z32
  obtain ⟨LL37, XL37, NL37⟩ : ∃ LL, Stand p l e room_1 s m #[(.long q0), (.int p1), (.int p2)] below meth c T36 LL 1 11 ∧ Fr n0 LL := ⟨_, X36, N36⟩
  show own_Ends p e below s _ _ _ (T36.setTop (mkF m 126 #[.val (.long q0), .second, .val (.int p1), .val (.int p2), .val (.int (f1_0 q0)), .val (.int kk), .val (.int ss), .val (.ref b5), .unset, .unset, .unset, .unset, .unset] []))
  refine own_step (fun t k => XS.aload XL37.here hx rfl (hb hby at_126) rfl rfl k) ?_
  show own_Ends p e below s _ _ _ (T36.setTop (mkF m 128 #[.val (.long q0), .second, .val (.int p1), .val (.int p2), .val (.int (f1_0 q0)), .val (.int kk), .val (.int ss), .val (.ref b5), .unset, .unset, .unset, .unset, .unset] [(.ref b5)]))
  refine own_step (fun t k => XS.bipush XL37.here hx rfl (hb hby at_128) k) ?_
  show own_Ends p e below s _ _ _ (T36.setTop (mkF m 130 #[.val (.long q0), .second, .val (.int p1), .val (.int p2), .val (.int (f1_0 q0)), .val (.int kk), .val (.int ss), .val (.ref b5), .unset, .unset, .unset, .unset, .unset] [(.int (8 : Int32)), (.ref b5)]))
  refine own_step (fun t k => XS.lloadN XL37.here hx rfl (hb hby at_130) rfl k) ?_
  show own_Ends p e below s _ _ _ (T36.setTop (mkF m 131 #[.val (.long q0), .second, .val (.int p1), .val (.int p2), .val (.int (f1_0 q0)), .val (.int kk), .val (.int ss), .val (.ref b5), .unset, .unset, .unset, .unset, .unset] [(.long q0), (.int (8 : Int32)), (.ref b5)]))
  refine own_step (fun t k => XS.bipush XL37.here hx rfl (hb hby at_131) k) ?_
  show own_Ends p e below s _ _ _ (T36.setTop (mkF m 133 #[.val (.long q0), .second, .val (.int p1), .val (.int p2), .val (.int (f1_0 q0)), .val (.int kk), .val (.int ss), .val (.ref b5), .unset, .unset, .unset, .unset, .unset] [(.int (8 : Int32)), (.long q0), (.int (8 : Int32)), (.ref b5)]))
  refine own_step (fun t k => XS.iload XL37.here hx rfl (hb hby at_133) rfl k) ?_
  show own_Ends p e below s _ _ _ (T36.setTop (mkF m 135 #[.val (.long q0), .second, .val (.int p1), .val (.int p2), .val (.int (f1_0 q0)), .val (.int kk), .val (.int ss), .val (.ref b5), .unset, .unset, .unset, .unset, .unset] [(.int kk), (.int (8 : Int32)), (.long q0), (.int (8 : Int32)), (.ref b5)]))
  obtain ⟨_, _, ⟨T38, L38, k38, n38⟩, -, X38, ⟨Lc38, hQ38, l38, y38, z38⟩, st38⟩ := Jvm.LawKit.callS XL37 hx (y := (⟨"com/example/weftline/weftline/runner/BodyVarintPinLaw", "enc", "(JII)B"⟩ : MethodName)) hown (mvT hZ (hw _ (List.mem_of_getElem? (i := 13) rfl))) (mvT hZ (hw _ (List.mem_of_getElem? (i := 14) rfl))) (mvT hZ (hw _ (List.mem_of_getElem? (i := 2) rfl))) (mvT hZ (hw _ (List.mem_of_getElem? (i := 15) rfl))) (by decide) (backOf (W := 2) (rm4 l Z a0 hw [] q0 (8 : Int32) kk  h36 n0  ) hZ (hw _ (List.mem_of_getElem? (i := 15) rfl)) (hw _ (List.mem_of_getElem? (i := 2) rfl)) (by decide) (by decide)) (g := (mkF m 135 #[.val (.long q0), .second, .val (.int p1), .val (.int p2), .val (.int (f1_0 q0)), .val (.int kk), .val (.int ss), .val (.ref b5), .unset, .unset, .unset, .unset, .unset] [(.int kk), (.int (8 : Int32)), (.long q0), (.int (8 : Int32)), (.ref b5)])) rfl (by rw [hml]; rfl) (argsL := [(.long q0), (.int (8 : Int32)), (.int kk)]) (rest := [(.int (8 : Int32)), (.ref b5)]) (lenOf pd0_2 rfl) rfl (by show 2 * 0 + _ ≤ _; exact Nat.le_of_eq rfl) (hb hby at_135) (fun _ _ => ⟨rfl, e36, (by decide : 1 + 0 ≤ _), (by decide : 11 + 0 ≤ _)⟩)
  dsimp only [Pt.U, Pt.locs, Pt.cells, Pt.slots] at X38 l38 y38 z38 st38 hQ38
  subst l38 y38 z38
  obtain ⟨rfl, N38q, e38⟩ := hQ38
  have N38 := Fr.app NL37 N38q
  refine own_step st38 ?_
  obtain ⟨LL39, XL39, NL39⟩ : ∃ LL, Stand p l e room_1 s m #[(.long q0), (.int p1), (.int p2)] below meth c T38 LL 1 11 ∧ Fr n0 LL := ⟨_, X38, N38⟩
  show own_Ends p e below s _ _ _ (T38.setTop (mkF m 138 #[.val (.long q0), .second, .val (.int p1), .val (.int p2), .val (.int (f1_0 q0)), .val (.int kk), .val (.int ss), .val (.ref b5), .unset, .unset, .unset, .unset, .unset] [(.int (f4_0 q0 (8 : Int32) kk)), (.int (8 : Int32)), (.ref b5)]))
  obtain ⟨T40, h40, X40, e40, W40, A40, st40⟩ := own_stB XL39 hx hZ e38 A36 8 (by decide) (by decide) (g := (mkF m 138 #[.val (.long q0), .second, .val (.int p1), .val (.int p2), .val (.int (f1_0 q0)), .val (.int kk), .val (.int ss), .val (.ref b5), .unset, .unset, .unset, .unset, .unset] [(.int (f4_0 q0 (8 : Int32) kk)), (.int (8 : Int32)), (.ref b5)])) rfl rfl (hb hby at_138)
  refine own_step st40 ?_
  have N40 := Fr.snoc X40 NL39 gn_b5
  have Z40 : n0 ≤ h40.size := by rw [W40.size]; exact Z36
  obtain ⟨LL41, XL41, NL41⟩ : ∃ LL, Stand p l e room_1 s m #[(.long q0), (.int p1), (.int p2)] below meth c T40 LL 1 11 ∧ Fr n0 LL := ⟨_, X40, N40⟩
  show own_Ends p e below s _ _ _ (T40.setTop (mkF m 139 #[.val (.long q0), .second, .val (.int p1), .val (.int p2), .val (.int (f1_0 q0)), .val (.int kk), .val (.int ss), .val (.ref b5), .unset, .unset, .unset, .unset, .unset] []))
  refine own_step (fun t k => XS.aload XL41.here hx rfl (hb hby at_139) rfl rfl k) ?_
  show own_Ends p e below s _ _ _ (T40.setTop (mkF m 141 #[.val (.long q0), .second, .val (.int p1), .val (.int p2), .val (.int (f1_0 q0)), .val (.int kk), .val (.int ss), .val (.ref b5), .unset, .unset, .unset, .unset, .unset] [(.ref b5)]))
  refine own_step (fun t k => XS.bipush XL41.here hx rfl (hb hby at_141) k) ?_
  show own_Ends p e below s _ _ _ (T40.setTop (mkF m 143 #[.val (.long q0), .second, .val (.int p1), .val (.int p2), .val (.int (f1_0 q0)), .val (.int kk), .val (.int ss), .val (.ref b5), .unset, .unset, .unset, .unset, .unset] [(.int (9 : Int32)), (.ref b5)]))
  refine own_step (fun t k => XS.lloadN XL41.here hx rfl (hb hby at_143) rfl k) ?_
  show own_Ends p e below s _ _ _ (T40.setTop (mkF m 144 #[.val (.long q0), .second, .val (.int p1), .val (.int p2), .val (.int (f1_0 q0)), .val (.int kk), .val (.int ss), .val (.ref b5), .unset, .unset, .unset, .unset, .unset] [(.long q0), (.int (9 : Int32)), (.ref b5)]))
  refine own_step (fun t k => XS.bipush XL41.here hx rfl (hb hby at_144) k) ?_
  show own_Ends p e below s _ _ _ (T40.setTop (mkF m 146 #[.val (.long q0), .second, .val (.int p1), .val (.int p2), .val (.int (f1_0 q0)), .val (.int kk), .val (.int ss), .val (.ref b5), .unset, .unset, .unset, .unset, .unset] [(.int (9 : Int32)), (.long q0), (.int (9 : Int32)), (.ref b5)]))
  refine own_step (fun t k => XS.iload XL41.here hx rfl (hb hby at_146) rfl k) ?_
  show own_Ends p e below s _ _ _ (T40.setTop (mkF m 148 #[.val (.long q0), .second, .val (.int p1), .val (.int p2), .val (.int (f1_0 q0)), .val (.int kk), .val (.int ss), .val (.ref b5), .unset, .unset, .unset, .unset, .unset] [(.int kk), (.int (9 : Int32)), (.long q0), (.int (9 : Int32)), (.ref b5)]))
  obtain ⟨_, _, ⟨T42, L42, k42, n42⟩, -, X42, ⟨Lc42, hQ42, l42, y42, z42⟩, st42⟩ := Jvm.LawKit.callS XL41 hx (y := (⟨"com/example/weftline/weftline/runner/BodyVarintPinLaw", "enc", "(JII)B"⟩ : MethodName)) hown (mvT hZ (hw _ (List.mem_of_getElem? (i := 13) rfl))) (mvT hZ (hw _ (List.mem_of_getElem? (i := 14) rfl))) (mvT hZ (hw _ (List.mem_of_getElem? (i := 2) rfl))) (mvT hZ (hw _ (List.mem_of_getElem? (i := 15) rfl))) (by decide) (backOf (W := 2) (rm4 l Z a0 hw [] q0 (9 : Int32) kk  h40 n0  ) hZ (hw _ (List.mem_of_getElem? (i := 15) rfl)) (hw _ (List.mem_of_getElem? (i := 2) rfl)) (by decide) (by decide)) (g := (mkF m 148 #[.val (.long q0), .second, .val (.int p1), .val (.int p2), .val (.int (f1_0 q0)), .val (.int kk), .val (.int ss), .val (.ref b5), .unset, .unset, .unset, .unset, .unset] [(.int kk), (.int (9 : Int32)), (.long q0), (.int (9 : Int32)), (.ref b5)])) rfl (by rw [hml]; rfl) (argsL := [(.long q0), (.int (9 : Int32)), (.int kk)]) (rest := [(.int (9 : Int32)), (.ref b5)]) (lenOf pd0_2 rfl) rfl (by show 2 * 0 + _ ≤ _; exact Nat.le_of_eq rfl) (hb hby at_148) (fun _ _ => ⟨rfl, e40, (by decide : 1 + 0 ≤ _), (by decide : 11 + 0 ≤ _)⟩)
  dsimp only [Pt.U, Pt.locs, Pt.cells, Pt.slots] at X42 l42 y42 z42 st42 hQ42
  subst l42 y42 z42
  obtain ⟨rfl, N42q, e42⟩ := hQ42
  have N42 := Fr.app NL41 N42q
  refine own_step st42 ?_
  obtain ⟨LL43, XL43, NL43⟩ : ∃ LL, Stand p l e room_1 s m #[(.long q0), (.int p1), (.int p2)] below meth c T42 LL 1 11 ∧ Fr n0 LL := ⟨_, X42, N42⟩
  show own_Ends p e below s _ _ _ (T42.setTop (mkF m 151 #[.val (.long q0), .second, .val (.int p1), .val (.int p2), .val (.int (f1_0 q0)), .val (.int kk), .val (.int ss), .val (.ref b5), .unset, .unset, .unset, .unset, .unset] [(.int (f4_0 q0 (9 : Int32) kk)), (.int (9 : Int32)), (.ref b5)]))
  obtain ⟨T44, h44, X44, e44, W44, A44, st44⟩ := own_stB XL43 hx hZ e42 A40 9 (by decide) (by decide) (g := (mkF m 151 #[.val (.long q0), .second, .val (.int p1), .val (.int p2), .val (.int (f1_0 q0)), .val (.int kk), .val (.int ss), .val (.ref b5), .unset, .unset, .unset, .unset, .unset] [(.int (f4_0 q0 (9 : Int32) kk)), (.int (9 : Int32)), (.ref b5)])) rfl rfl (hb hby at_151)
  refine own_step st44 ?_
  have N44 := Fr.snoc X44 NL43 gn_b5
  have Z44 : n0 ≤ h44.size := by rw [W44.size]; exact Z40
  obtain ⟨LL45, XL45, NL45⟩ : ∃ LL, Stand p l e room_1 s m #[(.long q0), (.int p1), (.int p2)] below meth c T44 LL 1 11 ∧ Fr n0 LL := ⟨_, X44, N44⟩
  show own_Ends p e below s _ _ _ (T44.setTop (mkF m 152 #[.val (.long q0), .second, .val (.int p1), .val (.int p2), .val (.int (f1_0 q0)), .val (.int kk), .val (.int ss), .val (.ref b5), .unset, .unset, .unset, .unset, .unset] []))
  refine own_step (fun t k => XS.aload XL45.here hx rfl (hb hby at_152) rfl rfl k) ?_
  show own_Ends p e below s _ _ _ (T44.setTop (mkF m 154 #[.val (.long q0), .second, .val (.int p1), .val (.int p2), .val (.int (f1_0 q0)), .val (.int kk), .val (.int ss), .val (.ref b5), .unset, .unset, .unset, .unset, .unset] [(.ref b5)]))
  refine own_step (fun t k => XS.iload XL45.here hx rfl (hb hby at_154) rfl k) ?_
  show own_Ends p e below s _ _ _ (T44.setTop (mkF m 156 #[.val (.long q0), .second, .val (.int p1), .val (.int p2), .val (.int (f1_0 q0)), .val (.int kk), .val (.int ss), .val (.ref b5), .unset, .unset, .unset, .unset, .unset] [(.int kk), (.ref b5)]))
  refine own_step (fun t k => XS.iload XL45.here hx rfl (hb hby at_156) rfl k) ?_
  show own_Ends p e below s _ _ _ (T44.setTop (mkF m 158 #[.val (.long q0), .second, .val (.int p1), .val (.int p2), .val (.int (f1_0 q0)), .val (.int kk), .val (.int ss), .val (.ref b5), .unset, .unset, .unset, .unset, .unset] [(.int ss), (.int kk), (.ref b5)]))
  refine own_step (fun t k => XS.i2b XL45.here hx rfl (hb hby at_158) rfl k) ?_
  show own_Ends p e below s _ _ _ (T44.setTop (mkF m 159 #[.val (.long q0), .second, .val (.int p1), .val (.int p2), .val (.int (f1_0 q0)), .val (.int kk), .val (.int ss), .val (.ref b5), .unset, .unset, .unset, .unset, .unset] [(.int (ss.toInt8.toInt32)), (.int kk), (.ref b5)]))
  obtain ⟨T46, h46, X46, e46, W46, A46, st46⟩ := own_stB XL45 hx hZ e44 A44 K hK (Nat.lt_succ_of_le hK10) (g := (mkF m 159 #[.val (.long q0), .second, .val (.int p1), .val (.int p2), .val (.int (f1_0 q0)), .val (.int kk), .val (.int ss), .val (.ref b5), .unset, .unset, .unset, .unset, .unset] [(.int (ss.toInt8.toInt32)), (.int kk), (.ref b5)])) rfl rfl (hb hby at_159)
  refine own_step st46 ?_
  have N46 := Fr.snoc X46 NL45 gn_b5
  have Z46 : n0 ≤ h46.size := by rw [W46.size]; exact Z44
  obtain ⟨LL47, XL47, NL47⟩ : ∃ LL, Stand p l e room_1 s m #[(.long q0), (.int p1), (.int p2)] below meth c T46 LL 1 11 ∧ Fr n0 LL := ⟨_, X46, N46⟩
  show own_Ends p e below s _ _ _ (T46.setTop (mkF m 160 #[.val (.long q0), .second, .val (.int p1), .val (.int p2), .val (.int (f1_0 q0)), .val (.int kk), .val (.int ss), .val (.ref b5), .unset, .unset, .unset, .unset, .unset] []))
  have At : own_AI Z h46 b5 .byte 11 (own_by q0 kk ss K) := own_congrI A46 (own_by_eq q0 kk ss K)
  show own_Ends p e below s _ _ _ (T46.setTop (mkF m 160 #[.val (.long q0), .second, .val (.int p1), .val (.int p2), .val (.int (f1_0 q0)), .val (.int kk), .val (.int ss), .val (.ref b5), .unset, .unset, .unset, .unset, .unset] []))
  obtain ⟨T48, h48, X48, e48, E48, A48, D48, -, st48⟩ := newO XL47 hx hZ hown (hw _ (List.mem_of_getElem? (i := 17) rfl)) (hw _ (List.mem_of_getElem? (i := 18) rfl)) (hw _ (List.mem_of_getElem? (i := 19) rfl)) e46 (g := (mkF m 160 #[.val (.long q0), .second, .val (.int p1), .val (.int p2), .val (.int (f1_0 q0)), .val (.int kk), .val (.int ss), .val (.ref b5), .unset, .unset, .unset, .unset, .unset] [])) rfl (hb hby at_160) (by decide) (by decide)
  obtain ⟨b48, g48⟩ : ∃ z, z = h46.size := ⟨_, rfl⟩
  rw [← g48] at A48 D48 st48
  have ne_b5_b48 : b5 ≠ b48 := Nat.ne_of_lt (Nat.lt_of_lt_of_le At.lt (Nat.le_of_eq g48.symm))
  have gn_b48 : n0 ≤ b48 := Nat.le_trans Z46 (Nat.le_of_eq g48.symm)
  have Z48 : n0 ≤ h48.size := Nat.le_trans Z46 E48.1
  have u49 := (At.ext E48)
  have F48_bytes : Fld Z h48 b48 "com/example/weftline/weftline/runner/CompactWire$Body" "bytes" "[B" .null := D48 (Or.inr (hw _ (List.mem_of_getElem? (i := 27) rfl))) (ty := (.array .byte)) (by decide)
  have F48_end : Fld Z h48 b48 "com/example/weftline/weftline/runner/CompactWire$Body" "end" "I" (.int (0 : Int32)) := D48 (Or.inr (hw _ (List.mem_of_getElem? (i := 29) rfl))) (ty := .int) (by decide)
  have F48_position : Fld Z h48 b48 "com/example/weftline/weftline/runner/CompactWire$Body" "position" "I" (.int (0 : Int32)) := D48 (Or.inl (hw _ (List.mem_of_getElem? (i := 36) rfl))) (ty := .int) (by decide)
  refine own_step st48 ?_
  show own_Ends p e below s _ _ _ (T48.setTop (mkF m 163 #[.val (.long q0), .second, .val (.int p1), .val (.int p2), .val (.int (f1_0 q0)), .val (.int kk), .val (.int ss), .val (.ref b5), .unset, .unset, .unset, .unset, .unset] [(.ref b48)]))
  refine own_step (fun t k => XS.dup X48.here hx rfl (hb hby at_163) rfl rfl k) ?_
  show own_Ends p e below s _ _ _ (T48.setTop (mkF m 164 #[.val (.long q0), .second, .val (.int p1), .val (.int p2), .val (.int (f1_0 q0)), .val (.int kk), .val (.int ss), .val (.ref b5), .unset, .unset, .unset, .unset, .unset] [(.ref b48), (.ref b48)]))
  refine own_step (fun t k => XS.aload X48.here hx rfl (hb hby at_164) rfl rfl k) ?_
  show own_Ends p e below s _ _ _ (T48.setTop (mkF m 166 #[.val (.long q0), .second, .val (.int p1), .val (.int p2), .val (.int (f1_0 q0)), .val (.int kk), .val (.int ss), .val (.ref b5), .unset, .unset, .unset, .unset, .unset] [(.ref b5), (.ref b48), (.ref b48)]))
  refine own_step (fun t k => XS.iload X48.here hx rfl (hb hby at_166) rfl k) ?_
  show own_Ends p e below s _ _ _ (T48.setTop (mkF m 168 #[.val (.long q0), .second, .val (.int p1), .val (.int p2), .val (.int (f1_0 q0)), .val (.int kk), .val (.int ss), .val (.ref b5), .unset, .unset, .unset, .unset, .unset] [(.int kk), (.ref b5), (.ref b48), (.ref b48)]))
  refine own_step (fun t k => XS.iconst X48.here hx rfl (hb hby at_168) k) ?_
  show own_Ends p e below s _ _ _ (T48.setTop (mkF m 169 #[.val (.long q0), .second, .val (.int p1), .val (.int p2), .val (.int (f1_0 q0)), .val (.int kk), .val (.int ss), .val (.ref b5), .unset, .unset, .unset, .unset, .unset] [(.int (1 : Int32)), (.int kk), (.ref b5), (.ref b48), (.ref b48)]))
  refine own_step (fun t k => XS.iadd X48.here hx rfl (hb hby at_169) rfl k) ?_
  show own_Ends p e below s _ _ _ (T48.setTop (mkF m 170 #[.val (.long q0), .second, .val (.int p1), .val (.int p2), .val (.int (f1_0 q0)), .val (.int kk), .val (.int ss), .val (.ref b5), .unset, .unset, .unset, .unset, .unset] [(.int (kk + (1 : Int32))), (.ref b5), (.ref b48), (.ref b48)]))
  obtain ⟨_, _, ⟨T50, L50, k50, n50⟩, -, X50, ⟨Lc50, hQ50, l50, y50, z50⟩, st50⟩ := X48.specialBack hx (y := (⟨"com/example/weftline/weftline/runner/CompactWire$Body", "<init>", "([BI)V"⟩ : MethodName)) rfl hown (mvT hZ (hw _ (List.mem_of_getElem? (i := 20) rfl))) (mvT hZ (hw _ (List.mem_of_getElem? (i := 21) rfl))) (mvT hZ (hw _ (List.mem_of_getElem? (i := 22) rfl))) (by decide) (backOf (W := 1) (rm5 l Z a0 hw [] b48 b5 (kk + (1 : Int32))  h48 n0 Z48 gn_b48 A48 F48_bytes F48_end F48_position) hZ (hw _ (List.mem_of_getElem? (i := 22) rfl)) (hw _ (List.mem_of_getElem? (i := 19) rfl)) (by decide) (by decide)) (g := (mkF m 170 #[.val (.long q0), .second, .val (.int p1), .val (.int p2), .val (.int (f1_0 q0)), .val (.int kk), .val (.int ss), .val (.ref b5), .unset, .unset, .unset, .unset, .unset] [(.int (kk + (1 : Int32))), (.ref b5), (.ref b48), (.ref b48)])) rfl (by rw [hml]; rfl) (Steps.refl _) (a := b48) (argsL := [(.ref b5), (.int (kk + (1 : Int32)))]) (rest := [(.ref b48)]) (lenOf pd0_3 rfl) rfl (by show 2 * 0 + _ ≤ _; exact Nat.le_of_eq rfl) (hb hby at_170) (fun _ _ => ⟨rfl, e48, (by decide : 2 + 0 ≤ _), (by decide : 14 + 0 ≤ _)⟩)
  dsimp only [Pt.U, Pt.locs, Pt.cells, Pt.slots] at X50 l50 y50 z50 st50 hQ50
  subst l50 y50 z50
  obtain ⟨rfl, N50q, Z50, K50, E50_0, F50_bytes, F50_end, F50_position⟩ := hQ50
  have N50 := Fr.app NL47 N50q
  have u51 := (u49.keep K50 (ninS ne_b5_b48 nin0))
  refine own_step (fun t k => st50.trans k) ?_
  obtain ⟨LL52, XL52, NL52⟩ : ∃ LL, Stand p l e room_1 s m #[(.long q0), (.int p1), (.int p2)] below meth c T50 LL 2 14 ∧ Fr n0 LL := ⟨_, X50, N50⟩
  show own_Ends p e below s _ _ _ (T50.setTop (mkF m 173 #[.val (.long q0), .second, .val (.int p1), .val (.int p2), .val (.int (f1_0 q0)), .val (.int kk), .val (.int ss), .val (.ref b5), .unset, .unset, .unset, .unset, .unset] [(.ref b48)]))
  refine own_step (fun t k => XS.astore XL52.here hx rfl (hb hby at_173) rfl rfl (l' := #[.val (.long q0), .second, .val (.int p1), .val (.int p2), .val (.int (f1_0 q0)), .val (.int kk), .val (.int ss), .val (.ref b5), .val (.ref b48), .unset, .unset, .unset, .unset]) rfl k) ?_
  show own_Ends p e below s _ _ _ (T50.setTop (mkF m 175 #[.val (.long q0), .second, .val (.int p1), .val (.int p2), .val (.int (f1_0 q0)), .val (.int kk), .val (.int ss), .val (.ref b5), .val (.ref b48), .unset, .unset, .unset, .unset] []))
  refine own_step (fun t k => XS.aload XL52.here hx rfl (hb hby at_175) rfl rfl k) ?_
  show own_Ends p e below s _ _ _ (T50.setTop (mkF m 177 #[.val (.long q0), .second, .val (.int p1), .val (.int p2), .val (.int (f1_0 q0)), .val (.int kk), .val (.int ss), .val (.ref b5), .val (.ref b48), .unset, .unset, .unset, .unset] [(.ref b48)]))
  obtain ⟨cq53, kq53, q53a, q53b, q53c⟩ := isOf hZ rfl E50_0
  obtain ⟨_, _, ⟨T53, L53, k53, n53⟩, -, X53, ⟨Lc53, hQ53, l53, y53, z53⟩, st53⟩ := XL52.virtualBack hx (y := (⟨"com/example/weftline/weftline/runner/CompactWire$Body", "varint", "()J"⟩ : MethodName)) (z := (⟨"com/example/weftline/weftline/runner/CompactWire$Body", "varint", "()J"⟩ : MethodName)) hown (mvT hZ (hw _ (List.mem_of_getElem? (i := 30) rfl))) (mvT hZ (hw _ (List.mem_of_getElem? (i := 31) rfl))) (notFace_of_selects (args := #[]) (mvT hZ (hw _ (List.mem_of_getElem? (i := 33) rfl)))) (mvT hZ (hw _ (List.mem_of_getElem? (i := 33) rfl))) (mvT hZ (hw _ (List.mem_of_getElem? (i := 32) rfl))) (by decide) (backOf (W := 0) (rm7 l Z a0 hw [] b48 b5 (kk + (1 : Int32)) (0 : Int32) 11 (own_by q0 kk ss K) 0 (K - 1) T50.heap n0 Z50 gn_b48 E50_0 F50_bytes F50_end F50_position u51 ne_b5_b48 (by decide) (own_p1 hK1 hK10).1 (own_p1 hK1 hK10).2 (by decide) (own_p2 hK hK1 hK10) (own_p3 hK hK1 hK10) (own_p4 hK hK1 hK10) (own_p5 hK hK1 hK10)) hZ (hw _ (List.mem_of_getElem? (i := 34) rfl)) (hw _ (List.mem_of_getElem? (i := 19) rfl)) (by decide) (by decide)) q53a q53c (g := (mkF m 177 #[.val (.long q0), .second, .val (.int p1), .val (.int p2), .val (.int (f1_0 q0)), .val (.int kk), .val (.int ss), .val (.ref b5), .val (.ref b48), .unset, .unset, .unset, .unset] [(.ref b48)])) rfl (by rw [hml]; rfl) (Steps.refl _) (argsL := []) (rest := []) (lenOf pd0_4 rfl) rfl (by show 2 * 0 + _ ≤ _; exact Nat.le_of_eq rfl) (hb hby at_177) (fun _ _ => ⟨rfl, rfl, (by decide : 2 + 0 ≤ _), (by decide : 14 + 0 ≤ _)⟩)
  dsimp only [Pt.U, Pt.locs, Pt.cells, Pt.slots] at X53 l53 y53 z53 st53 hQ53
  subst l53 y53 z53
  obtain ⟨rfl, N53q, Z53, K53, E53_0, F53_bytes, F53_end, w53, hw53, F53_position⟩ := hQ53
  have N53 := Fr.app NL52 N53q
  have u54 := (u51.keep K53 (ninS ne_b5_b48 nin0))
  refine own_step (fun t k => st53.trans k) ?_
  obtain ⟨LL55, XL55, NL55⟩ : ∃ LL, Stand p l e room_1 s m #[(.long q0), (.int p1), (.int p2)] below meth c T53 LL 2 14 ∧ Fr n0 LL := ⟨_, X53, N53⟩
  show own_Ends p e below s _ _ _ (T53.setTop (mkF m 180 #[.val (.long q0), .second, .val (.int p1), .val (.int p2), .val (.int (f1_0 q0)), .val (.int kk), .val (.int ss), .val (.ref b5), .val (.ref b48), .unset, .unset, .unset, .unset] [(.long (own_acc (own_by q0 kk ss K) 0 ((K - 1) + 1)))]))
  refine own_step (fun t k => XS.lstore XL55.here hx rfl (hb hby at_180) rfl (l' := #[.val (.long q0), .second, .val (.int p1), .val (.int p2), .val (.int (f1_0 q0)), .val (.int kk), .val (.int ss), .val (.ref b5), .val (.ref b48), .val (.long (own_acc (own_by q0 kk ss K) 0 ((K - 1) + 1))), .second, .unset, .unset]) rfl k) ?_
  show own_Ends p e below s _ _ _ (T53.setTop (mkF m 182 #[.val (.long q0), .second, .val (.int p1), .val (.int p2), .val (.int (f1_0 q0)), .val (.int kk), .val (.int ss), .val (.ref b5), .val (.ref b48), .val (.long (own_acc (own_by q0 kk ss K) 0 ((K - 1) + 1))), .second, .unset, .unset] []))
  refine own_step (fun t k => XS.aload XL55.here hx rfl (hb hby at_182) rfl rfl k) ?_
  show own_Ends p e below s _ _ _ (T53.setTop (mkF m 184 #[.val (.long q0), .second, .val (.int p1), .val (.int p2), .val (.int (f1_0 q0)), .val (.int kk), .val (.int ss), .val (.ref b5), .val (.ref b48), .val (.long (own_acc (own_by q0 kk ss K) 0 ((K - 1) + 1))), .second, .unset, .unset] [(.ref b48)]))
  obtain ⟨cq56, kq56, q56a, q56b, q56c⟩ := isOf hZ rfl E53_0
  obtain ⟨_, _, ⟨T56, L56, k56, n56⟩, -, X56, ⟨Lc56, hQ56, l56, y56, z56⟩, st56⟩ := XL55.virtualBack hx (y := (⟨"com/example/weftline/weftline/runner/CompactWire$Body", "varint", "()J"⟩ : MethodName)) (z := (⟨"com/example/weftline/weftline/runner/CompactWire$Body", "varint", "()J"⟩ : MethodName)) hown (mvT hZ (hw _ (List.mem_of_getElem? (i := 30) rfl))) (mvT hZ (hw _ (List.mem_of_getElem? (i := 31) rfl))) (notFace_of_selects (args := #[]) (mvT hZ (hw _ (List.mem_of_getElem? (i := 33) rfl)))) (mvT hZ (hw _ (List.mem_of_getElem? (i := 33) rfl))) (mvT hZ (hw _ (List.mem_of_getElem? (i := 32) rfl))) (by decide) (backOf (W := 0) (rm7 l Z a0 hw [] b48 b5 (kk + (1 : Int32)) w53 11 (own_by q0 kk ss K) K 0 T53.heap n0 Z53 gn_b48 E53_0 F53_bytes F53_end F53_position u54 ne_b5_b48 (own_q0 hK1 hw53) (by decide) (Nat.lt_succ_of_le hK10) (by decide) (fun i hi => absurd hi (Nat.not_lt_zero i)) (own_q1 hs) (fun q => absurd q (by decide)) (own_q2 hK hK10)) hZ (hw _ (List.mem_of_getElem? (i := 34) rfl)) (hw _ (List.mem_of_getElem? (i := 19) rfl)) (by decide) (by decide)) q56a q56c (g := (mkF m 184 #[.val (.long q0), .second, .val (.int p1), .val (.int p2), .val (.int (f1_0 q0)), .val (.int kk), .val (.int ss), .val (.ref b5), .val (.ref b48), .val (.long (own_acc (own_by q0 kk ss K) 0 ((K - 1) + 1))), .second, .unset, .unset] [(.ref b48)])) rfl (by rw [hml]; rfl) (Steps.refl _) (argsL := []) (rest := []) (lenOf pd0_4 rfl) rfl (by show 2 * 0 + _ ≤ _; exact Nat.le_of_eq rfl) (hb hby at_184) (fun _ _ => ⟨rfl, rfl, (by decide : 2 + 0 ≤ _), (by decide : 14 + 0 ≤ _)⟩)
  dsimp only [Pt.U, Pt.locs, Pt.cells, Pt.slots] at X56 l56 y56 z56 st56 hQ56
  subst l56 y56 z56
  obtain ⟨rfl, N56q, Z56, K56, E56_0, F56_bytes, F56_end, w56, hw56, F56_position⟩ := hQ56
  have N56 := Fr.app NL55 N56q
  have u57 := (u54.keep K56 (ninS ne_b5_b48 nin0))
  refine own_step (fun t k => st56.trans k) ?_
  obtain ⟨LL58, XL58, NL58⟩ : ∃ LL, Stand p l e room_1 s m #[(.long q0), (.int p1), (.int p2)] below meth c T56 LL 2 14 ∧ Fr n0 LL := ⟨_, X56, N56⟩
  show own_Ends p e below s _ _ _ (T56.setTop (mkF m 187 #[.val (.long q0), .second, .val (.int p1), .val (.int p2), .val (.int (f1_0 q0)), .val (.int kk), .val (.int ss), .val (.ref b5), .val (.ref b48), .val (.long (own_acc (own_by q0 kk ss K) 0 ((K - 1) + 1))), .second, .unset, .unset] [(.long (own_acc (own_by q0 kk ss K) K (0 + 1)))]))
  refine own_step (fun t k => XS.lstore XL58.here hx rfl (hb hby at_187) rfl (l' := #[.val (.long q0), .second, .val (.int p1), .val (.int p2), .val (.int (f1_0 q0)), .val (.int kk), .val (.int ss), .val (.ref b5), .val (.ref b48), .val (.long (own_acc (own_by q0 kk ss K) 0 ((K - 1) + 1))), .second, .val (.long (own_acc (own_by q0 kk ss K) K (0 + 1))), .second]) rfl k) ?_
  show own_Ends p e below s _ _ _ (T56.setTop (mkF m 189 #[.val (.long q0), .second, .val (.int p1), .val (.int p2), .val (.int (f1_0 q0)), .val (.int kk), .val (.int ss), .val (.ref b5), .val (.ref b48), .val (.long (own_acc (own_by q0 kk ss K) 0 ((K - 1) + 1))), .second, .val (.long (own_acc (own_by q0 kk ss K) K (0 + 1))), .second] []))
  refine own_step (fun t k => XS.lload XL58.here hx rfl (hb hby at_189) rfl k) ?_
  show own_Ends p e below s _ _ _ (T56.setTop (mkF m 191 #[.val (.long q0), .second, .val (.int p1), .val (.int p2), .val (.int (f1_0 q0)), .val (.int kk), .val (.int ss), .val (.ref b5), .val (.ref b48), .val (.long (own_acc (own_by q0 kk ss K) 0 ((K - 1) + 1))), .second, .val (.long (own_acc (own_by q0 kk ss K) K (0 + 1))), .second] [(.long (own_acc (own_by q0 kk ss K) 0 ((K - 1) + 1)))]))
  refine own_step (fun t k => XS.lloadN XL58.here hx rfl (hb hby at_191) rfl k) ?_
  show own_Ends p e below s _ _ _ (T56.setTop (mkF m 192 #[.val (.long q0), .second, .val (.int p1), .val (.int p2), .val (.int (f1_0 q0)), .val (.int kk), .val (.int ss), .val (.ref b5), .val (.ref b48), .val (.long (own_acc (own_by q0 kk ss K) 0 ((K - 1) + 1))), .second, .val (.long (own_acc (own_by q0 kk ss K) K (0 + 1))), .second] [(.long q0), (.long (own_acc (own_by q0 kk ss K) 0 ((K - 1) + 1)))]))
  refine own_step (fun t k => XS.lcmp XL58.here hx rfl (hb hby at_192) rfl k) ?_
  show own_Ends p e below s _ _ _ (T56.setTop (mkF m 193 #[.val (.long q0), .second, .val (.int p1), .val (.int p2), .val (.int (f1_0 q0)), .val (.int kk), .val (.int ss), .val (.ref b5), .val (.ref b48), .val (.long (own_acc (own_by q0 kk ss K) 0 ((K - 1) + 1))), .second, .val (.long (own_acc (own_by q0 kk ss K) K (0 + 1))), .second] [(.int (lcmpW (own_acc (own_by q0 kk ss K) 0 ((K - 1) + 1)) q0))]))
  refine own_step (fun t k => XS.ifNo XL58.here hx rfl (hb hby at_193) rfl ((if0 _ _).trans (teq ((lw_eq (own_acc (own_by q0 kk ss K) 0 ((K - 1) + 1)) q0).mpr (own_v1 hK hK1 hK10 hKv))).2) k) ?_
  show own_Ends p e below s _ _ _ (T56.setTop (mkF m 196 #[.val (.long q0), .second, .val (.int p1), .val (.int p2), .val (.int (f1_0 q0)), .val (.int kk), .val (.int ss), .val (.ref b5), .val (.ref b48), .val (.long (own_acc (own_by q0 kk ss K) 0 ((K - 1) + 1))), .second, .val (.long (own_acc (own_by q0 kk ss K) K (0 + 1))), .second] []))
  refine own_step (fun t k => XS.lload XL58.here hx rfl (hb hby at_196) rfl k) ?_
  show own_Ends p e below s _ _ _ (T56.setTop (mkF m 198 #[.val (.long q0), .second, .val (.int p1), .val (.int p2), .val (.int (f1_0 q0)), .val (.int kk), .val (.int ss), .val (.ref b5), .val (.ref b48), .val (.long (own_acc (own_by q0 kk ss K) 0 ((K - 1) + 1))), .second, .val (.long (own_acc (own_by q0 kk ss K) K (0 + 1))), .second] [(.long (own_acc (own_by q0 kk ss K) K (0 + 1)))]))
  refine own_step (fun t k => XS.iload XL58.here hx rfl (hb hby at_198) rfl k) ?_
  show own_Ends p e below s _ _ _ (T56.setTop (mkF m 200 #[.val (.long q0), .second, .val (.int p1), .val (.int p2), .val (.int (f1_0 q0)), .val (.int kk), .val (.int ss), .val (.ref b5), .val (.ref b48), .val (.long (own_acc (own_by q0 kk ss K) 0 ((K - 1) + 1))), .second, .val (.long (own_acc (own_by q0 kk ss K) K (0 + 1))), .second] [(.int ss), (.long (own_acc (own_by q0 kk ss K) K (0 + 1)))]))
  refine own_step (fun t k => XS.i2l XL58.here hx rfl (hb hby at_200) rfl k) ?_
  show own_Ends p e below s _ _ _ (T56.setTop (mkF m 201 #[.val (.long q0), .second, .val (.int p1), .val (.int p2), .val (.int (f1_0 q0)), .val (.int kk), .val (.int ss), .val (.ref b5), .val (.ref b48), .val (.long (own_acc (own_by q0 kk ss K) 0 ((K - 1) + 1))), .second, .val (.long (own_acc (own_by q0 kk ss K) K (0 + 1))), .second] [(.long (ss.toInt64)), (.long (own_acc (own_by q0 kk ss K) K (0 + 1)))]))
  refine own_step (fun t k => XS.lcmp XL58.here hx rfl (hb hby at_201) rfl k) ?_
  show own_Ends p e below s _ _ _ (T56.setTop (mkF m 202 #[.val (.long q0), .second, .val (.int p1), .val (.int p2), .val (.int (f1_0 q0)), .val (.int kk), .val (.int ss), .val (.ref b5), .val (.ref b48), .val (.long (own_acc (own_by q0 kk ss K) 0 ((K - 1) + 1))), .second, .val (.long (own_acc (own_by q0 kk ss K) K (0 + 1))), .second] [(.int (lcmpW (own_acc (own_by q0 kk ss K) K (0 + 1)) (ss.toInt64)))]))
  refine own_step (fun t k => XS.ifNo XL58.here hx rfl (hb hby at_202) rfl ((if0 _ _).trans (teq ((lw_eq (own_acc (own_by q0 kk ss K) K (0 + 1)) (ss.toInt64)).mpr (own_v2 hs))).2) k) ?_
  show own_Ends p e below s _ _ _ (T56.setTop (mkF m 205 #[.val (.long q0), .second, .val (.int p1), .val (.int p2), .val (.int (f1_0 q0)), .val (.int kk), .val (.int ss), .val (.ref b5), .val (.ref b48), .val (.long (own_acc (own_by q0 kk ss K) 0 ((K - 1) + 1))), .second, .val (.long (own_acc (own_by q0 kk ss K) K (0 + 1))), .second] []))
  refine own_step (fun t k => XS.aload XL58.here hx rfl (hb hby at_205) rfl rfl k) ?_
  show own_Ends p e below s _ _ _ (T56.setTop (mkF m 207 #[.val (.long q0), .second, .val (.int p1), .val (.int p2), .val (.int (f1_0 q0)), .val (.int kk), .val (.int ss), .val (.ref b5), .val (.ref b48), .val (.long (own_acc (own_by q0 kk ss K) 0 ((K - 1) + 1))), .second, .val (.long (own_acc (own_by q0 kk ss K) K (0 + 1))), .second] [(.ref b48)]))
  obtain ⟨cq59, kq59, q59a, q59b, q59c⟩ := isOf hZ rfl E56_0
  obtain ⟨_, _, ⟨T59, L59, k59, n59⟩, -, X59, ⟨Lc59, hQ59, l59, y59, z59⟩, st59⟩ := XL58.virtualBack hx (y := (⟨"com/example/weftline/weftline/runner/CompactWire$Body", "more", "()Z"⟩ : MethodName)) (z := (⟨"com/example/weftline/weftline/runner/CompactWire$Body", "more", "()Z"⟩ : MethodName)) hown (mvT hZ (hw _ (List.mem_of_getElem? (i := 37) rfl))) (mvT hZ (hw _ (List.mem_of_getElem? (i := 38) rfl))) (notFace_of_selects (args := #[]) (mvT hZ (hw _ (List.mem_of_getElem? (i := 40) rfl)))) (mvT hZ (hw _ (List.mem_of_getElem? (i := 40) rfl))) (mvT hZ (hw _ (List.mem_of_getElem? (i := 39) rfl))) (by decide) (backOf (W := 0) (rm8 l Z a0 hw [] b48 w56 (kk + (1 : Int32)) T56.heap n0 F56_position F56_end ) hZ (hw _ (List.mem_of_getElem? (i := 41) rfl)) (hw _ (List.mem_of_getElem? (i := 19) rfl)) (by decide) (by decide)) q59a q59c (g := (mkF m 207 #[.val (.long q0), .second, .val (.int p1), .val (.int p2), .val (.int (f1_0 q0)), .val (.int kk), .val (.int ss), .val (.ref b5), .val (.ref b48), .val (.long (own_acc (own_by q0 kk ss K) 0 ((K - 1) + 1))), .second, .val (.long (own_acc (own_by q0 kk ss K) K (0 + 1))), .second] [(.ref b48)])) rfl (by rw [hml]; rfl) (Steps.refl _) (argsL := []) (rest := []) (lenOf pd0_5 rfl) rfl (by show 2 * 0 + _ ≤ _; exact Nat.le_of_eq rfl) (hb hby at_207) (fun _ _ => ⟨rfl, rfl, (by decide : 2 + 0 ≤ _), (by decide : 14 + 0 ≤ _)⟩)
  dsimp only [Pt.U, Pt.locs, Pt.cells, Pt.slots] at X59 l59 y59 z59 st59 hQ59
  subst l59 y59 z59
  obtain ⟨rfl, N59q, e59⟩ := hQ59
  have N59 := Fr.app NL58 N59q
  refine own_step (fun t k => st59.trans k) ?_
  obtain ⟨LL60, XL60, NL60⟩ : ∃ LL, Stand p l e room_1 s m #[(.long q0), (.int p1), (.int p2)] below meth c T59 LL 2 14 ∧ Fr n0 LL := ⟨_, X59, N59⟩
  show own_Ends p e below s _ _ _ (T59.setTop (mkF m 210 #[.val (.long q0), .second, .val (.int p1), .val (.int p2), .val (.int (f1_0 q0)), .val (.int kk), .val (.int ss), .val (.ref b5), .val (.ref b48), .val (.long (own_acc (own_by q0 kk ss K) 0 ((K - 1) + 1))), .second, .val (.long (own_acc (own_by q0 kk ss K) K (0 + 1))), .second] [(.int (f8_0 w56 (kk + (1 : Int32))))]))
  refine own_step (fun t k => XS.ifNo XL60.here hx rfl (hb hby at_210) rfl ((if0 _ _).trans (teq (own_v3 hK hK10 hw56)).2) k) ?_
  show own_Ends p e below s _ _ _ (T59.setTop (mkF m 213 #[.val (.long q0), .second, .val (.int p1), .val (.int p2), .val (.int (f1_0 q0)), .val (.int kk), .val (.int ss), .val (.ref b5), .val (.ref b48), .val (.long (own_acc (own_by q0 kk ss K) 0 ((K - 1) + 1))), .second, .val (.long (own_acc (own_by q0 kk ss K) K (0 + 1))), .second] []))
  refine own_step (fun t k => XS.iconst XL60.here hx rfl (hb hby at_213) k) ?_
  show own_Ends p e below s _ _ _ (T59.setTop (mkF m 214 #[.val (.long q0), .second, .val (.int p1), .val (.int p2), .val (.int (f1_0 q0)), .val (.int kk), .val (.int ss), .val (.ref b5), .val (.ref b48), .val (.long (own_acc (own_by q0 kk ss K) 0 ((K - 1) + 1))), .second, .val (.long (own_acc (own_by q0 kk ss K) K (0 + 1))), .second] [(.int (1 : Int32))]))
  refine own_step (fun t k => XS.goto XL60.here hx rfl (pc0 := 214) (pc' := 218) rfl (hb hby at_214) (by decide) (by decide) k) ?_
  show own_Ends p e below s _ _ _ (T59.setTop (mkF m 218 #[.val (.long q0), .second, .val (.int p1), .val (.int p2), .val (.int (f1_0 q0)), .val (.int kk), .val (.int ss), .val (.ref b5), .val (.ref b48), .val (.long (own_acc (own_by q0 kk ss K) 0 ((K - 1) + 1))), .second, .val (.long (own_acc (own_by q0 kk ss K) K (0 + 1))), .second] [(.int (1 : Int32))]))
  exact own_retN XL60 hx hlk (t := .boolean) hret (by simp) (hb hby at_218) (w := (1 : Int32)) (by decide) ⟨rfl, NL60⟩ (by decide) (by decide)
set_option maxRecDepth 65536 in
set_option maxHeartbeats 40000000 in
theorem comes_1 {Post : Tables → Env → Array Value → State → Outcome → State → Prop} (hpost : ∀ tb e args s v u, (limb_1_1.after args s (.returned v) u = true ∧ limb_1_2.after args s (.returned v) u = true ∧ True) → FrameEnd s (.returned v) u (Jvm.fieldLocs frame_1_writes args s ++ Jvm.arrayLocs frame_1_arrays args s ++ Jvm.staticLocs frame_1_statics s) 16 128 → Post tb e args s (.returned v) u) :
    ArmFor flags0 classFile x code maxLocals ret World_1 tables_1 room_1 Calls_1 rest_1 Pre_1 Post := by
  intro l hfl _ _ p e ha hc hk s m args below hf hA hF happ hP
  obtain ⟨hcalls, hrest, hpre⟩ := hP
  obtain ⟨-, -, -, hnamed, -, -, -, hat⟩ := (Spec.applies_iff hf).mp happ
  obtain ⟨hg, hn⟩ := and_e (Cond.before_iff.mp (show (Jvm.Cond.and given_1 narrow_1).before args s = true from hpre))
  obtain ⟨g0, hr0⟩ := and_e hg
  obtain ⟨g1, hr1⟩ := and_e hr0
  obtain ⟨g2, hr2⟩ := and_e hr1
  obtain ⟨w0, w1, w2, rfl⟩ : ∃ w0 w1 w2 : Value, args = #[w0, w1, w2] := by
    have hs : args.size = 3 := by simpa [Cond.value, given_1] using g0
    obtain ⟨L⟩ := args
    match L, hs with
    | [w0, w1, w2], _ => exact ⟨w0, w1, w2, rfl⟩
  have hw := fun d (hd : d ∈ tables_1) => atoms_spec (ws := Jvm.Cond.code x code maxLocals ret :: tables_1) hat d (List.mem_cons_of_mem _ hd)
  obtain ⟨i0, ei0⟩ := isL_v g1
  obtain rfl : w0 = (.long i0) := Option.some.inj ei0
  obtain ⟨i1, ei1⟩ := is_v g2
  obtain rfl : w1 = (.int i1) := Option.some.inj ei1
  obtain ⟨i2, ei2⟩ := is_v hr2
  obtain rfl : w2 = (.int i2) := Option.some.inj ei2
  obtain ⟨n, o, h1, h2, h3, _, L, rfl, ⟨rfl, N⟩, hq⟩ := rm0 l s _ hw tables_1 i0 i1 i2 s.heap s.heap.size (Nat.le_refl _)  p e ha hc hk s m _ below hf ((Spec.applies_iff_loose hf).mp happ).1 ⟨rfl, State.Warmed39.refl s, rfl⟩ trivial
  refine ⟨n, _, h1, h2, h3, hpost _ _ _ _ _ _ ⟨Cond.after_iff.mpr rfl, Cond.after_iff.mpr (eq_i res_at (Term.int_eval (1)) rfl), trivial⟩ ⟨hq.1, hq.2.1, (hq.2.2.sift fun y hy => Or.inr (N y hy)).mono (by decide) (by decide)⟩⟩
theorem main_1_1 : Claimed_1_1 := comes_1 fun _ _ _ _ _ _ h hF => ⟨h.1, hF⟩
theorem main_1_2 : Claimed_1_2 := comes_1 fun _ _ _ _ _ _ h hF => ⟨h.2.1, hF⟩
end Jvm.Pilot.@@N@@
namespace Jvm.Pilot.@@N@@
open Jvm Jvm.ClassFile Sem Op Lib Jvm.Free Jvm.Stand Jvm.Pilot.@@N@@.Jvm.D
/-! MADE BY PROGRAM (witnessworld.py) out of the Statement's table words and the real class files: 10 classes; the members and pool entries that the words name. The judged class is class 1, her method 4. -/
namespace start1
open Jvm.ClassFile
def u (s : String) : CpInfo := .utf8 (stringToUtf16 s)
/-- a pool by its gaps: so many unusable entries, then the entry; so many at the end -/
def gap : Nat → List CpInfo → List CpInfo
  | 0, r => r
  | n + 1, r => .unusable :: gap n r
def poolList (es : List (Nat × CpInfo)) (last : Nat) : List CpInfo := es.foldr (fun e r => gap e.1 (e.2 :: r)) (gap last [])
def pool (es : List (Nat × CpInfo)) (last : Nat) : Array CpInfo := ⟨poolList es last⟩
def fileOf (pool : Array CpInfo) (this : Nat) (attrs : Array Attribute := #[]) (ms : Array MethodInfo := #[]) (fl : Nat := 33) (sup : Nat := 0) (ifs : Array Nat := #[]) (fds : Array FieldInfo := #[]) : ClassFile where
  minorVersion := 0
  majorVersion := 65
  constantPool := pool
  accessFlags := fl
  thisClass := this
  superClass := sup
  interfaces := ifs
  fields := fds
  methods := ms
  attributes := attrs
def plain (name : String) (sup : Option ClassId) : Class where
  name := name
  kind := .ordinary
  loader := none
  accessFlags := 33
  super := sup
  interfaces := #[]
  cf := none
  fields := #[]
  methods := #[]
  instanceTypes := #[]
  staticTypes := #[]
  resolved := #[]
  callSites := []
  init := .initialized
  statics := none
  mirror := none

def pool0 : Array CpInfo := pool [(5, u "<init>"), (0, u "()V"), (1, .class_ 10), (1, u "java/lang/Object")] 113

def k0c0 : Code := { maxStack := 0, maxLocals := 1, code := object_method_1_code, exceptionTable := #[], attributes := #[] }
def k0m0 : Method := { name := "<init>", desc := "()V", sig := { parameters := [], returnType := none }, accessFlags := 1, code := some k0c0 }
/-- java/lang/Object -/
def k0 : Class := { plain "java/lang/Object" none with
  accessFlags := 33
  interfaces := #[]
  cf := some (fileOf pool0 8 #[] #[{ accessFlags := 1, nameIndex := 5, descriptorIndex := 6, attributes := #[] }] 33 0 #[] #[])
  fields := #[]
  methods := #[k0m0]
  instanceTypes := #[]
  staticTypes := #[]
  resolved := Array.replicate 124 none
  statics := none }

def pool1 : Array CpInfo := pool [(2, .class_ 4), (1, u "java/lang/Object"), (0, u "<init>"), (0, u "()V"), (0, .methodref 8 9), (0, .class_ 10), (0, .nameAndType 11 12), (0, u "com/example/weftline/weftline/runner/BodyVarintPinLaw"), (0, u "nz"), (0, u "(JI)I"), (0, .long 127), (1, .methodref 8 16), (0, .nameAndType 17 18), (0, u "minLength"), (0, u "(J)I"), (0, .integer 2147483647), (0, .methodref 21 22), (0, .class_ 23), (0, .nameAndType 24 25), (0, u "java/lang/Math"), (0, u "max"), (0, u "(II)I"), (0, .methodref 8 27), (0, .nameAndType 28 29), (0, u "enc"), (0, u "(JII)B"), (0, .class_ 31), (0, u "com/example/weftline/weftline/runner/CompactWire$Body"), (0, .methodref 30 33), (0, .nameAndType 5 34), (0, u "([BI)V"), (0, .methodref 30 36), (0, .nameAndType 37 38), (0, u "varint"), (0, u "()J"), (0, .methodref 30 40), (0, .nameAndType 41 42), (0, u "more"), (0, u "()Z"), (3, u "law"), (0, u "(JII)Z")] 11

def k1m0 : Method := { name := "<init>", desc := "()V", sig := { parameters := [], returnType := none }, accessFlags := 2, code := none }
def k1c1 : Code := { maxStack := 4, maxLocals := 3, code := method_2_code, exceptionTable := #[], attributes := #[] }
def k1m1 : Method := { name := "nz", desc := "(JI)I", sig := { parameters := [.long, .int], returnType := some .int }, accessFlags := 10, code := some k1c1 }
def k1c2 : Code := { maxStack := 4, maxLocals := 2, code := method_3_code, exceptionTable := #[], attributes := #[] }
def k1m2 : Method := { name := "minLength", desc := "(J)I", sig := { parameters := [.long], returnType := some .int }, accessFlags := 10, code := some k1c2 }
def k1c3 : Code := { maxStack := 4, maxLocals := 5, code := method_4_code, exceptionTable := #[], attributes := #[] }
def k1m3 : Method := { name := "enc", desc := "(JII)B", sig := { parameters := [.long, .int, .int], returnType := some .byte }, accessFlags := 10, code := some k1c3 }
def k1c4 : Code := { maxStack := 6, maxLocals := 13, code := code, exceptionTable := #[], attributes := #[] }
def k1m4 : Method := { name := "law", desc := "(JII)Z", sig := { parameters := [.long, .int, .int], returnType := some .boolean }, accessFlags := 9, code := some k1c4 }
/-- com/example/weftline/weftline/runner/BodyVarintPinLaw -/
def k1 : Class := { plain "com/example/weftline/weftline/runner/BodyVarintPinLaw" (some 0) with
  accessFlags := 49
  interfaces := #[]
  cf := some (fileOf pool1 8 #[] #[{ accessFlags := 2, nameIndex := 5, descriptorIndex := 6, attributes := #[] }, { accessFlags := 10, nameIndex := 11, descriptorIndex := 12, attributes := #[] }, { accessFlags := 10, nameIndex := 17, descriptorIndex := 18, attributes := #[] }, { accessFlags := 10, nameIndex := 28, descriptorIndex := 29, attributes := #[] }, { accessFlags := 9, nameIndex := 46, descriptorIndex := 47, attributes := #[] }] 49 2 #[] #[])
  fields := #[]
  methods := #[k1m0, k1m1, k1m2, k1m3, k1m4]
  instanceTypes := #[]
  staticTypes := #[]
  resolved := Array.replicate 59 none
  statics := none }

def pool2 : Array CpInfo := pool [(1, .class_ 2), (0, u "java/lang/Math"), (1, .class_ 6), (1, u "java/lang/Object"), (0, u "<init>"), (0, u "()V"), (89, .class_ 100), (1, u "java/lang/Math$RandomNumberGeneratorHolder"), (71, u "negativeZeroFloatBits"), (0, u "J"), (2, u "negativeZeroDoubleBits"), (21, u "max"), (46, u "$assertionsDisabled"), (0, u "Z"), (88, u "(II)I"), (2, u "twoToTheDoubleScaleDown"), (0, u "D"), (4, u "twoToTheDoubleScaleUp"), (9, u "E"), (3, u "PI"), (2, u "TAU"), (2, u "DEGREES_TO_RADIANS"), (0, u "RADIANS_TO_DEGREES")] 94

def k2m0 : Method := { name := "<init>", desc := "()V", sig := { parameters := [], returnType := none }, accessFlags := 2, code := none }
def k2c1 : Code := { maxStack := 2, maxLocals := 2, code := jdk_29_method_65_code, exceptionTable := #[], attributes := #[] }
def k2m1 : Method := { name := "max", desc := "(II)I", sig := { parameters := [.int, .int], returnType := some .int }, accessFlags := 9, code := some k2c1 }
/-- java/lang/Math -/
def k2 : Class := { plain "java/lang/Math" (some 0) with
  accessFlags := 49
  interfaces := #[]
  cf := some (fileOf pool2 1 #[.nestMembers #[98]] #[{ accessFlags := 2, nameIndex := 7, descriptorIndex := 8, attributes := #[] }, { accessFlags := 9, nameIndex := 198, descriptorIndex := 335, attributes := #[] }] 49 4 #[] #[{ accessFlags := 25, nameIndex := 354, descriptorIndex := 339, attributes := #[] }, { accessFlags := 25, nameIndex := 358, descriptorIndex := 339, attributes := #[] }, { accessFlags := 25, nameIndex := 361, descriptorIndex := 339, attributes := #[] }, { accessFlags := 26, nameIndex := 364, descriptorIndex := 339, attributes := #[] }, { accessFlags := 26, nameIndex := 365, descriptorIndex := 339, attributes := #[] }, { accessFlags := 26, nameIndex := 172, descriptorIndex := 173, attributes := #[] }, { accessFlags := 26, nameIndex := 176, descriptorIndex := 173, attributes := #[] }, { accessFlags := 8, nameIndex := 344, descriptorIndex := 339, attributes := #[] }, { accessFlags := 8, nameIndex := 338, descriptorIndex := 339, attributes := #[] }, { accessFlags := 4120, nameIndex := 245, descriptorIndex := 246, attributes := #[] }])
  fields := #[{ name := "E", type := .double, accessFlags := 25, slot := 0, constantValue := 0 }, { name := "PI", type := .double, accessFlags := 25, slot := 1, constantValue := 0 }, { name := "TAU", type := .double, accessFlags := 25, slot := 2, constantValue := 0 }, { name := "DEGREES_TO_RADIANS", type := .double, accessFlags := 26, slot := 3, constantValue := 0 }, { name := "RADIANS_TO_DEGREES", type := .double, accessFlags := 26, slot := 4, constantValue := 0 }, { name := "negativeZeroFloatBits", type := .long, accessFlags := 26, slot := 5, constantValue := 0 }, { name := "negativeZeroDoubleBits", type := .long, accessFlags := 26, slot := 6, constantValue := 0 }, { name := "twoToTheDoubleScaleUp", type := .double, accessFlags := 8, slot := 7, constantValue := 0 }, { name := "twoToTheDoubleScaleDown", type := .double, accessFlags := 8, slot := 8, constantValue := 0 }, { name := "$assertionsDisabled", type := .boolean, accessFlags := 4120, slot := 9, constantValue := 0 }]
  methods := #[k2m0, k2m1]
  instanceTypes := #[]
  staticTypes := #[.double, .double, .double, .double, .double, .long, .long, .double, .double, .boolean]
  resolved := Array.replicate 460 none
  statics := none }

def pool3 : Array CpInfo := pool [(1, .class_ 2), (0, u "com/example/weftline/weftline/runner/CompactWire"), (0, .methodref 4 5), (0, .class_ 6), (0, .nameAndType 7 8), (0, u "java/lang/Object"), (0, u "<init>"), (0, u "()V"), (0, .fieldref 10 11), (0, .class_ 12), (0, .nameAndType 13 14), (0, u "com/example/weftline/weftline/runner/CompactWire$Body"), (0, u "bytes"), (0, u "[B"), (0, .fieldref 10 16), (0, .nameAndType 17 18), (0, u "end"), (0, u "I"), (0, .fieldref 10 20), (0, .nameAndType 21 18), (0, u "position"), (11, u "varint"), (0, u "()J"), (64, u "([BI)V"), (2, u "more"), (0, u "()Z")] 29

def k3c0 : Code := { maxStack := 2, maxLocals := 3, code := prog_30_method_1_code, exceptionTable := #[], attributes := #[] }
def k3m0 : Method := { name := "<init>", desc := "([BI)V", sig := { parameters := [(.array .byte), .int], returnType := none }, accessFlags := 0, code := some k3c0 }
def k3c1 : Code := { maxStack := 2, maxLocals := 1, code := prog_30_method_2_code, exceptionTable := #[], attributes := #[] }
def k3m1 : Method := { name := "more", desc := "()Z", sig := { parameters := [], returnType := some .boolean }, accessFlags := 0, code := some k3c1 }
def k3c2 : Code := { maxStack := 5, maxLocals := 5, code := prog_30_method_3_code, exceptionTable := #[], attributes := #[] }
def k3m2 : Method := { name := "varint", desc := "()J", sig := { parameters := [], returnType := some .long }, accessFlags := 0, code := some k3c2 }
/-- com/example/weftline/weftline/runner/CompactWire$Body -/
def k3 : Class := { plain "com/example/weftline/weftline/runner/CompactWire$Body" (some 0) with
  accessFlags := 48
  interfaces := #[]
  cf := some (fileOf pool3 10 #[.nestHost 1] #[{ accessFlags := 0, nameIndex := 7, descriptorIndex := 99, attributes := #[] }, { accessFlags := 0, nameIndex := 102, descriptorIndex := 103, attributes := #[] }, { accessFlags := 0, nameIndex := 33, descriptorIndex := 34, attributes := #[] }] 48 4 #[] #[{ accessFlags := 18, nameIndex := 13, descriptorIndex := 14, attributes := #[] }, { accessFlags := 18, nameIndex := 17, descriptorIndex := 18, attributes := #[] }, { accessFlags := 2, nameIndex := 21, descriptorIndex := 18, attributes := #[] }])
  fields := #[{ name := "bytes", type := (.array .byte), accessFlags := 18, slot := 0, constantValue := 0 }, { name := "end", type := .int, accessFlags := 18, slot := 1, constantValue := 0 }, { name := "position", type := .int, accessFlags := 2, slot := 2, constantValue := 0 }]
  methods := #[k3m0, k3m1, k3m2]
  instanceTypes := #[(.array .byte), .int, .int]
  staticTypes := #[]
  resolved := Array.replicate 133 none
  statics := none }

def pool4 : Array CpInfo := pool [(1, u "java/lang/Cloneable"), (0, .class_ 1), (0, u "java/lang/Object"), (0, .class_ 3)] 3

/-- java/lang/Cloneable -/
def k4 : Class := { plain "java/lang/Cloneable" (some 0) with
  accessFlags := 1537
  interfaces := #[]
  cf := some (fileOf pool4 2 #[] #[] 1537 4 #[] #[])
  fields := #[]
  methods := #[]
  instanceTypes := #[]
  staticTypes := #[]
  resolved := Array.replicate 8 none
  statics := none }

def pool5 : Array CpInfo := pool [(1, u "java/io/Serializable"), (0, .class_ 1), (0, u "java/lang/Object"), (0, .class_ 3)] 3

/-- java/io/Serializable -/
def k5 : Class := { plain "java/io/Serializable" (some 0) with
  accessFlags := 1537
  interfaces := #[]
  cf := some (fileOf pool5 2 #[] #[] 1537 4 #[] #[])
  fields := #[]
  methods := #[]
  instanceTypes := #[]
  staticTypes := #[]
  resolved := Array.replicate 8 none
  statics := none }

/-- the primitive byte -/
def k6 : Class := { plain "byte" none with kind := .primitive 'B', accessFlags := 0x411 }
/-- [B -/
def k7 : Class := { plain "[B" (some 0) with kind := .array 6 .byte, interfaces := #[4, 5], accessFlags := 1041 }

/-- the primitive int -/
def k8 : Class := { plain "int" none with kind := .primitive 'I', accessFlags := 0x411 }
/-- [I -/
def k9 : Class := { plain "[I" (some 0) with kind := .array 8 .int, interfaces := #[4, 5], accessFlags := 1041 }

def heap : Heap := #[]
def classes : Array Class := #[k0, k1, k2, k3, k4, k5, k6, k7, k8, k9]
def interned : List (Array UInt16 × Addr) := []
def slotsUsed : Nat := 0
def theMethod : MethodId := ⟨1, 4⟩
def args0 : Array Value := #[.long 5, .int 6, .int 7]
def aboutOver (below : List Frame) : State where
  vm := { classes := classes, interned := interned.toArray }
  heap := heap
  slotsUsed := slotsUsed
  threads := #[{ frames := .invoking theMethod args0 :: below }]
def below0 : List Frame := [.native { method := ⟨0, 0⟩, args := #[] }]
def about1 : State := aboutOver below0
def p0 : Program := .bare "" "" ""
def e0 : Env := launch0.env 0 0 0
theorem w_frames : about1.frames = Frame.invoking theMethod args0 :: below0 := rfl
set_option maxRecDepth 65536 in
theorem w_args : argsFit about1.vm theMethod args0 = true := by decide +kernel
set_option maxRecDepth 65536 in
theorem w_heap : heapFits about1 = true := by decide +kernel
set_option maxRecDepth 65536 in
theorem w_runnable : about1.curStatus? = some .runnable := by decide +kernel
set_option maxRecDepth 65536 in
theorem w_alone : about1.alone = true := by decide +kernel
set_option maxRecDepth 65536 in
theorem w_named : about1.methodNamed? x = some theMethod := by decide +kernel
set_option maxRecDepth 65536 in
theorem w_hears : about1.hears theMethod below0 = true := by decide +kernel
set_option maxRecDepth 65536 in
theorem w_ripe : about1.ripe theMethod args0 below0 = true := by decide +kernel
theorem w_running : about1.status = .running := rfl
set_option maxRecDepth 65536 in
theorem w_room : about1.hasRoom e0.platform room_1 = true :=
  launch0.hasRoom_least _ room_1 (by decide +kernel) (by decide +kernel) (by decide +kernel) (by decide +kernel) (by decide +kernel) (by decide +kernel)
theorem allAtoms_all (ts : List Jvm.Cond) (a : Array Jvm.Value) (st : Jvm.State) : (allAtoms ts).before a st = ts.all (fun c => c.before a st) := by
  induction ts with
  | nil => rfl
  | cons c t ih =>
    show (Jvm.Cond.and c (allAtoms t)).before a st = _
    rw [Jvm.Cond.before_and, ih, List.all_cons]
def words1 : List Jvm.Cond := Jvm.Cond.code x code maxLocals ret :: tables_1
/-- a 'code' word, met by the world's own term for the bytes: nothing is compared byte by byte -/
theorem code_word {y : MethodName} {bytes : ByteArray} {mx : Nat} {rt : Option FieldType} {a : Array Value} {s : State} {m : MethodId} {meth : Method} {c : Code} (h1 : s.methodNamed? y = some m) (h2 : s.vm.method? m = some meth) (h3 : meth.code = some c) (h4 : c.code = bytes)
    (h5 : (c.maxLocals == mx && c.exceptionTable.isEmpty && decide (c.maxStack ≤ mostOperands) && decide (meth.sig.returnType = rt) && !meth.locks && decide (parseMethodDescriptor y.desc = some meth.sig)) = true) : (Jvm.Cond.code y bytes mx rt).before a s = true := by
  simp only [Bool.and_eq_true, beq_iff_eq, Bool.not_eq_true', decide_eq_true_eq] at h5
  obtain ⟨⟨⟨⟨⟨g1, g2⟩, g3⟩, g4⟩, g5⟩, g6⟩ := h5
  simp [Cond.before, Cond.holds, Cond.value, h1, h2, h3, h4, g1, g2, g3, g4, g5, g6]
def isCode : Jvm.Cond → Bool
  | .code _ _ _ _ => true
  | _ => false
theorem all_split {L : List Jvm.Cond} {P : Jvm.Cond → Bool} (h1 : L.all (fun c => isCode c || P c) = true) (h2 : ∀ c ∈ L.filter isCode, P c = true) : L.all P = true := by
  refine List.all_eq_true.mpr fun c hc => ?_
  have h := List.all_eq_true.mp h1 c hc
  rcases Bool.eq_false_or_eq_true (isCode c) with hi | hi
  · exact h2 c (List.mem_filter.mpr ⟨hc, hi⟩)
  · simpa [hi] using h
set_option maxRecDepth 65536 in
theorem w_c0 : (Jvm.Cond.code x code maxLocals ret).before args0 about1 = true := code_word (m := ⟨1, 4⟩) (meth := k1m4) (c := k1c4) (by decide +kernel) rfl rfl rfl (by decide +kernel)
set_option maxRecDepth 65536 in
theorem w_c1 : (Jvm.Cond.code ({ cls := "com/example/weftline/weftline/runner/BodyVarintPinLaw", name := "minLength", desc := "(J)I" } : Jvm.MethodName) method_3_code (2 : Nat) (Option.some Jvm.ClassFile.FieldType.int)).before args0 about1 = true := code_word (m := ⟨1, 2⟩) (meth := k1m2) (c := k1c2) (by decide +kernel) rfl rfl rfl (by decide +kernel)
set_option maxRecDepth 65536 in
theorem w_c2 : (Jvm.Cond.code ({ cls := "com/example/weftline/weftline/runner/BodyVarintPinLaw", name := "nz", desc := "(JI)I" } : Jvm.MethodName) method_2_code (3 : Nat) (Option.some Jvm.ClassFile.FieldType.int)).before args0 about1 = true := code_word (m := ⟨1, 1⟩) (meth := k1m1) (c := k1c1) (by decide +kernel) rfl rfl rfl (by decide +kernel)
set_option maxRecDepth 65536 in
theorem w_c3 : (Jvm.Cond.code ({ cls := "java/lang/Math", name := "max", desc := "(II)I" } : Jvm.MethodName) jdk_29_method_65_code (2 : Nat) (Option.some Jvm.ClassFile.FieldType.int)).before args0 about1 = true := code_word (m := ⟨2, 1⟩) (meth := k2m1) (c := k2c1) (by decide +kernel) rfl rfl rfl (by decide +kernel)
set_option maxRecDepth 65536 in
theorem w_c4 : (Jvm.Cond.code ({ cls := "com/example/weftline/weftline/runner/BodyVarintPinLaw", name := "enc", desc := "(JII)B" } : Jvm.MethodName) method_4_code (5 : Nat) (Option.some Jvm.ClassFile.FieldType.byte)).before args0 about1 = true := code_word (m := ⟨1, 3⟩) (meth := k1m3) (c := k1c3) (by decide +kernel) rfl rfl rfl (by decide +kernel)
set_option maxRecDepth 65536 in
theorem w_c5 : (Jvm.Cond.code ({ cls := "com/example/weftline/weftline/runner/CompactWire$Body", name := "<init>", desc := "([BI)V" } : Jvm.MethodName) prog_30_method_1_code (3 : Nat) (Option.none : Option Jvm.ClassFile.FieldType)).before args0 about1 = true := code_word (m := ⟨3, 0⟩) (meth := k3m0) (c := k3c0) (by decide +kernel) rfl rfl rfl (by decide +kernel)
set_option maxRecDepth 65536 in
theorem w_c6 : (Jvm.Cond.code ({ cls := "java/lang/Object", name := "<init>", desc := "()V" } : Jvm.MethodName) object_method_1_code (1 : Nat) (Option.none : Option Jvm.ClassFile.FieldType)).before args0 about1 = true := code_word (m := ⟨0, 0⟩) (meth := k0m0) (c := k0c0) (by decide +kernel) rfl rfl rfl (by decide +kernel)
set_option maxRecDepth 65536 in
theorem w_c7 : (Jvm.Cond.code ({ cls := "com/example/weftline/weftline/runner/CompactWire$Body", name := "varint", desc := "()J" } : Jvm.MethodName) prog_30_method_3_code (5 : Nat) (Option.some Jvm.ClassFile.FieldType.long)).before args0 about1 = true := code_word (m := ⟨3, 2⟩) (meth := k3m2) (c := k3c2) (by decide +kernel) rfl rfl rfl (by decide +kernel)
set_option maxRecDepth 65536 in
theorem w_c8 : (Jvm.Cond.code ({ cls := "com/example/weftline/weftline/runner/CompactWire$Body", name := "more", desc := "()Z" } : Jvm.MethodName) prog_30_method_2_code (1 : Nat) (Option.some Jvm.ClassFile.FieldType.boolean)).before args0 about1 = true := code_word (m := ⟨3, 1⟩) (meth := k3m1) (c := k3c1) (by decide +kernel) rfl rfl rfl (by decide +kernel)
def codes1 : List Jvm.Cond := [Jvm.Cond.code x code maxLocals ret, Jvm.Cond.code ({ cls := "com/example/weftline/weftline/runner/BodyVarintPinLaw", name := "minLength", desc := "(J)I" } : Jvm.MethodName) method_3_code (2 : Nat) (Option.some Jvm.ClassFile.FieldType.int), Jvm.Cond.code ({ cls := "com/example/weftline/weftline/runner/BodyVarintPinLaw", name := "nz", desc := "(JI)I" } : Jvm.MethodName) method_2_code (3 : Nat) (Option.some Jvm.ClassFile.FieldType.int), Jvm.Cond.code ({ cls := "java/lang/Math", name := "max", desc := "(II)I" } : Jvm.MethodName) jdk_29_method_65_code (2 : Nat) (Option.some Jvm.ClassFile.FieldType.int), Jvm.Cond.code ({ cls := "com/example/weftline/weftline/runner/BodyVarintPinLaw", name := "enc", desc := "(JII)B" } : Jvm.MethodName) method_4_code (5 : Nat) (Option.some Jvm.ClassFile.FieldType.byte), Jvm.Cond.code ({ cls := "com/example/weftline/weftline/runner/CompactWire$Body", name := "<init>", desc := "([BI)V" } : Jvm.MethodName) prog_30_method_1_code (3 : Nat) (Option.none : Option Jvm.ClassFile.FieldType), Jvm.Cond.code ({ cls := "java/lang/Object", name := "<init>", desc := "()V" } : Jvm.MethodName) object_method_1_code (1 : Nat) (Option.none : Option Jvm.ClassFile.FieldType), Jvm.Cond.code ({ cls := "com/example/weftline/weftline/runner/CompactWire$Body", name := "varint", desc := "()J" } : Jvm.MethodName) prog_30_method_3_code (5 : Nat) (Option.some Jvm.ClassFile.FieldType.long), Jvm.Cond.code ({ cls := "com/example/weftline/weftline/runner/CompactWire$Body", name := "more", desc := "()Z" } : Jvm.MethodName) prog_30_method_2_code (1 : Nat) (Option.some Jvm.ClassFile.FieldType.boolean)]
set_option maxRecDepth 65536 in
theorem codes_eq : words1.filter isCode = codes1 := rfl
theorem w_codes : ∀ c ∈ words1.filter isCode, c.before args0 about1 = true := by
  rw [codes_eq]
  intro c hc
  simp only [codes1, List.mem_cons, List.not_mem_nil, or_false] at hc
  rcases hc with rfl | rfl | rfl | rfl | rfl | rfl | rfl | rfl | rfl
  · exact w_c0
  · exact w_c1
  · exact w_c2
  · exact w_c3
  · exact w_c4
  · exact w_c5
  · exact w_c6
  · exact w_c7
  · exact w_c8
set_option maxRecDepth 65536 in
theorem w_t1 : (words1.take 24).all (fun c => isCode c || c.before args0 about1) = true := by decide +kernel
set_option maxRecDepth 65536 in
theorem w_t2 : (words1.drop 24).all (fun c => isCode c || c.before args0 about1) = true := by decide +kernel
theorem w_tables : (allAtoms (Jvm.Cond.code x code maxLocals ret :: tables_1)).before args0 about1 = true := by
  rw [allAtoms_all]
  show words1.all (fun c => c.before args0 about1) = true
  refine all_split ?_ w_codes
  rw [← List.take_append_drop 24 words1, List.all_append, w_t1, w_t2]
  rfl
set_option maxRecDepth 65536 in
theorem w_case : (Jvm.Cond.and given_1 narrow_1).before args0 about1 = true := by decide +kernel
theorem w_applies : (headSpec (Jvm.Cond.code x code maxLocals ret :: tables_1) room_1).applies x e0.platform about1 = true :=
  (Spec.applies_iff w_frames).mpr ⟨w_running, w_runnable, w_alone, w_named, w_hears, w_ripe, w_room, w_tables⟩
theorem atStart : AtStart classFile x code maxLocals ret World_1 tables_1 room_1 Calls_1 rest_1 Pre_1 launch0 p0 e0 about1 theMethod args0 below0 :=
  ⟨lists_1, trivial, launch0.admits_env _ _ _, launch0.least_env, fairChoices_fair.cas, fairChoices_fair.clock, w_frames, w_args, w_heap, w_applies, trivial, trivial, w_case⟩
end start1
theorem witness_1 : WitnessClaimed_1 := ⟨start1.p0, start1.e0, start1.about1, start1.theMethod, start1.args0, start1.below0, start1.atStart⟩
end Jvm.Pilot.@@N@@
