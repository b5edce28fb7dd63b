import JvmDerived
import JvmDerived.Pilot.@@N@@Statement
import JvmDerived.Pilot.@@N@@Code
set_option linter.unusedVariables false
set_option linter.unusedSimpArgs false
namespace Jvm.Pilot.@@N@@
open Jvm Jvm.ClassFile Sem Op Lib Jvm.Free Jvm.Stand Jvm.LawKit Jvm.RoadKit Bundle Jvm.Pilot.@@N@@.Jvm.D
section OwnKit
variable {p : Program} {l : Launch} {e : Env} {R : Room} {s : State} {m : MethodId} {args : Array Value} {below : List Frame} {meth : Method} {c : Code} {T : State} {locs : List Loc} {cells slots : Nat} {Z : State} {h h' : Heap} {a b : Addr} {kc ks : Nat} {Q : Option Value → Heap → List Loc → Prop}
/-- from U the run comes to the method's end, and Q says what is left there -/
def own_Ends (p : Program) (e : Env) (below : List Frame) (s : State) (kc ks : Nat) (Q : Option Value → Heap → List Loc → Prop) (U : State) : Prop :=
  ∃ s₂ o, Steps p.tables e below U s₂ ∧ s₂.status = .running ∧ Ended s₂ below o ∧ ∃ v L, o = .returned v ∧ Q v s₂.heap L ∧ FrameEnd s o s₂ L kc ks
theorem own_step {U U' : State} (k1 : ∀ t, Steps p.tables e below U' t → Steps p.tables e below U t) (k2 : own_Ends p e below s kc ks Q U') : own_Ends p e below s kc ks Q U := by
  obtain ⟨s₂, o, h1, r⟩ := k2
  exact ⟨s₂, o, k1 _ h1, r⟩
theorem own_cast {g g' : JFrame} (q : g = g') (k : own_Ends p e below s kc ks Q (T.setTop g')) : own_Ends p e below s kc ks Q (T.setTop g) := q ▸ k
theorem own_ret0 (X : Stand p l e R s m args below meth c T locs cells slots) (hx : p.tables.exec = Jvm.exec) (hlk : meth.locks = false) (hret : meth.sig.returnType = none) {pc : Nat} {Ls : Array Slot}
    (hd : decode c.code pc = .ok (.return_, 1)) (hq : Q none T.heap locs) (hk : cells ≤ kc) (hn : slots ≤ ks) : own_Ends p e below s kc ks Q (T.setTop (mkF m pc Ls [])) := by
  obtain ⟨fs, hr, hrun, hended, hW, hsame⟩ := X.leave (v := none) (fun _ => rfl) hlk
  exact ⟨_, _, X.returnOut hx hret hd hr, hrun, hended, _, _, rfl, hq, ⟨_, rfl⟩, hW, hsame.mono hk hn⟩
theorem own_retN (X : Stand p l e R s m args below meth c T locs cells slots) (hx : p.tables.exec = Jvm.exec) (hlk : meth.locks = false) {t : FieldType} (hret : meth.sig.returnType = some t) (ht : t = .boolean ∨ t = .byte ∨ t = .char ∨ t = .short) {pc : Nat} {Ls : Array Slot} {z : Int32} {rest : List Value}
    (hd : decode c.code pc = .ok (.ireturn, 1)) {w : Int32} (hw : nar t z = w) (hq : Q (some (.int w)) T.heap locs) (hk : cells ≤ kc) (hn : slots ≤ ks) : own_Ends p e below s kc ks Q (T.setTop (mkF m pc Ls (.int z :: rest))) := by
  subst hw
  obtain ⟨fs, hr, hrun, hended, hW, hsame⟩ := X.leave (v := some (.int (nar t z))) (fun h => by rw [hret] at h; cases h) hlk
  exact ⟨_, _, retN X hx hret ht hd hr, hrun, hended, _, _, rfl, hq, ⟨_, rfl⟩, hW, hsame.mono hk hn⟩
theorem own_retI (X : Stand p l e R s m args below meth c T locs cells slots) (hx : p.tables.exec = Jvm.exec) (hlk : meth.locks = false) (hret : meth.sig.returnType = some .int) {pc : Nat} {Ls : Array Slot} {z : Int32} {rest : List Value}
    (hd : decode c.code pc = .ok (.ireturn, 1)) (hq : Q (some (.int z)) T.heap locs) (hk : cells ≤ kc) (hn : slots ≤ ks) : own_Ends p e below s kc ks Q (T.setTop (mkF m pc Ls (.int z :: rest))) := by
  obtain ⟨fs, hr, hrun, hended, hW, hsame⟩ := X.leave (v := some (.int z)) (fun h => by rw [hret] at h; cases h) hlk
  exact ⟨_, _, retOut X hx hret rfl (Or.inl ⟨rfl, Or.inl rfl, _, rfl⟩) hd hr, hrun, hended, _, _, rfl, hq, ⟨_, rfl⟩, hW, hsame.mono hk hn⟩
theorem own_retL (X : Stand p l e R s m args below meth c T locs cells slots) (hx : p.tables.exec = Jvm.exec) (hlk : meth.locks = false) (hret : meth.sig.returnType = some .long) {pc : Nat} {Ls : Array Slot} {z : Int64} {rest : List Value}
    (hd : decode c.code pc = .ok (.lreturn, 1)) (hq : Q (some (.long z)) T.heap locs) (hk : cells ≤ kc) (hn : slots ≤ ks) : own_Ends p e below s kc ks Q (T.setTop (mkF m pc Ls (.long z :: rest))) := by
  obtain ⟨fs, hr, hrun, hended, hW, hsame⟩ := X.leave (v := some (.long z)) (fun h => by rw [hret] at h; cases h) hlk
  exact ⟨_, _, retOut X hx hret rfl (Or.inr (Or.inl ⟨rfl, rfl, _, rfl⟩)) hd hr, hrun, hended, _, _, rfl, hq, ⟨_, rfl⟩, hW, hsame.mono hk hn⟩
theorem own_retA (X : Stand p l e R s m args below meth c T locs cells slots) (hx : p.tables.exec = Jvm.exec) (hlk : meth.locks = false) {t : FieldType} (hret : meth.sig.returnType = some t) {pc : Nat} {Ls : Array Slot} {z : Addr} {rest : List Value} (ht : t.isReference = true) (hnw : narrow t (.ref z) = .ref z)
    (hd : decode c.code pc = .ok (.areturn, 1)) (hq : Q (some (.ref z)) T.heap locs) (hk : cells ≤ kc) (hn : slots ≤ ks) : own_Ends p e below s kc ks Q (T.setTop (mkF m pc Ls (.ref z :: rest))) := by
  obtain ⟨fs, hr, hrun, hended, hW, hsame⟩ := X.leave (v := some (.ref z)) (fun h => by rw [hret] at h; cases h) hlk
  exact ⟨_, _, retOut X hx hret hnw (Or.inr (Or.inr (Or.inr (Or.inr ⟨rfl, ht, rfl⟩)))) hd hr, hrun, hended, _, _, rfl, hq, ⟨_, rfl⟩, hW, hsame.mono hk hn⟩
theorem own_lrem {g : JFrame} {target : State} (X : Stand p l e R s m args below meth c T locs cells slots) (hx : p.tables.exec = Jvm.exec) (hg : g.method = m) {x y : Int64} {rest : List Value} (hd : decode c.code g.pc = .ok (.lrem, 1)) (hs : g.stack = .long y :: .long x :: rest) (hy : y ≠ 0)
    (hr : Steps p.tables e below (T.setTop { g with pc := g.pc + 1, stack := .long (x % y) :: rest }) target) : Steps p.tables e below (T.setTop g) target := by
  have q : x - x / y * y = x % y := lrem_mod x y
  exact XS.lrem X.here hx hg hd hs hy (by rw [q]; exact hr)
theorem own_pop2L {g : JFrame} {target : State} (X : Stand p l e R s m args below meth c T locs cells slots) (hx : p.tables.exec = Jvm.exec) (hg : g.method = m) {x : Int64} {rest : List Value} (hd : decode c.code g.pc = .ok (.pop2, 1)) (hs : g.stack = .long x :: rest)
    (hr : Steps p.tables e below (T.setTop { g with pc := g.pc + 1, stack := rest }) target) : Steps p.tables e below (T.setTop g) target := by
  subst hg
  jvm_step X.here [X.here.top, hx, hd, hs, Value.category]
  exact hr
theorem own_swHit {g : JFrame} {target : State} (X : Stand p l e R s m args below meth c T locs cells slots) (hx : p.tables.exec = Jvm.exec) (hg : g.method = m) {k : Int32} {rest : List Value} (hs : g.stack = .int k :: rest) {dflt : Int} {pairs : Array (Int × Int)} {len : Nat} (hd : decode c.code g.pc = .ok (.lookupswitch dflt pairs, len))
    (hsorted : (pairs.toList.zip (pairs.toList.drop 1)).all (fun (a, next) => a.1 < next.1) = true) {a off : Int} (hfind : pairs.find? (·.1 == k.toInt) = some (a, off)) {pc0 pc' : Nat} (hpc : g.pc = pc0) (ho : 0 ≤ (pc0 : Int) + off) (hp : ((pc0 : Int) + off).toNat = pc')
    (hr : Steps p.tables e below (T.setTop { g with pc := pc', stack := rest }) target) : Steps p.tables e below (T.setTop g) target := by
  subst hpc
  subst hp
  exact X.lookupswitchHit hx hg hs hd hsorted hfind ho target hr
theorem own_swMiss {g : JFrame} {target : State} (X : Stand p l e R s m args below meth c T locs cells slots) (hx : p.tables.exec = Jvm.exec) (hg : g.method = m) {k : Int32} {rest : List Value} (hs : g.stack = .int k :: rest) {dflt : Int} {pairs : Array (Int × Int)} {len : Nat} (hd : decode c.code g.pc = .ok (.lookupswitch dflt pairs, len))
    (hsorted : (pairs.toList.zip (pairs.toList.drop 1)).all (fun (a, next) => a.1 < next.1) = true) (hfind : pairs.find? (·.1 == k.toInt) = none) {pc0 pc' : Nat} (hpc : g.pc = pc0) (ho : 0 ≤ (pc0 : Int) + dflt) (hp : ((pc0 : Int) + dflt).toNat = pc')
    (hr : Steps p.tables e below (T.setTop { g with pc := pc', stack := rest }) target) : Steps p.tables e below (T.setTop g) target := by
  subst hpc
  subst hp
  exact X.lookupswitchMiss hx hg hs hd hsorted hfind ho target hr
/-! arrays, by what each place holds -/
def own_up {α : Type} (f : Nat → α) (i : Nat) (x : α) : Nat → α := fun k => if k = i then x else f k
def own_AI (Z : State) (h : Heap) (a : Addr) (ty : FieldType) (n : Nat) (f : Nat → Int32) : Prop := ∃ c : Cell, Arr Z h a c ty ∧ c.slots.size = n ∧ ∀ k, k < n → c.slots[k]? = some (.int (f k))
def own_AJ (Z : State) (h : Heap) (a : Addr) (n : Nat) (f : Nat → Int64) : Prop := ∃ c : Cell, Arr Z h a c .long ∧ c.slots.size = n ∧ ∀ k, k < n → c.slots[k]? = some (.long (f k))
theorem own_AI.lt {ty : FieldType} {n : Nat} {f : Nat → Int32} (A : own_AI Z h a ty n f) : a < h.size := by obtain ⟨c, A, -⟩ := A; exact A.lt
theorem own_AI.ext {ty : FieldType} {n : Nat} {f : Nat → Int32} (A : own_AI Z h a ty n f) (E : Ext h h') : own_AI Z h' a ty n f := by obtain ⟨c, A, r⟩ := A; exact ⟨c, A.ext E, r⟩
theorem own_AI.other {ty : FieldType} {n : Nat} {f : Nat → Int32} {sl : Nat} {v : Value} (A : own_AI Z h b ty n f) (W : Wr h h' a sl v) (q : b ≠ a) : own_AI Z h' b ty n f := by obtain ⟨c, A, r⟩ := A; exact ⟨c, A.other W q, r⟩
theorem own_AI.keep {ty : FieldType} {n : Nat} {f : Nat → Int32} {ws : List Addr} (A : own_AI Z h a ty n f) (K : Keep h h' ws) (q : a ∉ ws) : own_AI Z h' a ty n f := by obtain ⟨c, A, r⟩ := A; exact ⟨c, ⟨K.2.1 a c A.1 q, A.2⟩, r⟩
theorem own_AJ.lt {n : Nat} {f : Nat → Int64} (A : own_AJ Z h a n f) : a < h.size := by obtain ⟨c, A, -⟩ := A; exact A.lt
theorem own_AJ.ext {n : Nat} {f : Nat → Int64} (A : own_AJ Z h a n f) (E : Ext h h') : own_AJ Z h' a n f := by obtain ⟨c, A, r⟩ := A; exact ⟨c, A.ext E, r⟩
theorem own_idx {j : Int32} {i n : Nat} {cl : Cell} (hi : j.toInt = (i : Int)) (hn : i < n) (hs : cl.slots.size = n) : ¬ (j < 0 ∨ cl.slots.size ≤ j.toNatClampNeg) ∧ j.toNatClampNeg = i := by
  have e : j.toNatClampNeg = i := by
    show j.toInt.toNat = i
    omega
  refine ⟨?_, e⟩
  rw [e, hs]
  intro q
  rcases q with q | q
  · rw [Int32.lt_iff_toInt_lt, hi] at q
    have z : (0 : Int32).toInt = 0 := by decide
    omega
  · omega
theorem own_set {n : Nat} {cl : Cell} {i : Nat} {v : Value} {g : Nat → Value} (hs : cl.slots.size = n) (hn : i < n) (hf : ∀ k, k < n → cl.slots[k]? = some (g k)) : (cl.setSlot i v).slots.size = n ∧ ∀ k, k < n → (cl.setSlot i v).slots[k]? = some (if k = i then v else g k) := by
  refine ⟨by rw [sz_set]; exact hs, fun k hk => ?_⟩
  by_cases q : k = i
  · subst q; simp [Cell.setSlot, hs, hn]
  · have : (cl.setSlot i v).slots[k]? = cl.slots[k]? := Array.getElem?_setIfInBounds_ne (fun z => q z.symm)
    rw [this, hf k hk, if_neg q]
theorem own_stI (X : Stand p l e R s m args below meth c T locs cells slots) (hx : p.tables.exec = Jvm.exec) (hZ : Z.Warmed39 s.vm) (eT : T.heap = h) {n : Nat} {f : Nat → Int32} (A : own_AI Z h a .int n f) {j x : Int32} (i : Nat) (hi : j.toInt = (i : Int)) (hn : i < n) {g : JFrame} (hg : g.method = m) {rest : List Value} (hs : g.stack = .int x :: .int j :: .ref a :: rest) (hd : decode c.code g.pc = .ok (.iastore, 1)) :
    ∃ T' h', Stand p l e R s m args below meth c T' (locs ++ [⟨a, i⟩]) cells slots ∧ T'.heap = h' ∧ Wr h h' a i (.int x) ∧ own_AI Z h' a .int n (own_up f i x) ∧ ∀ target, Steps p.tables e below (T'.setTop { g with pc := g.pc + 1, stack := rest }) target → Steps p.tables e below (T.setTop g) target := by
  obtain ⟨cl, A1, A2, A3⟩ := A
  obtain ⟨q1, q2⟩ := own_idx hi hn A2
  obtain ⟨T', h', X', e', W, st⟩ := stI X hx hZ eT A1 q1 hg hs hd
  rw [q2] at X' W
  obtain ⟨r1, r2⟩ := own_set (v := .int x) A2 hn A3
  refine ⟨T', h', X', e', W, ⟨cl.setSlot i (.int x), A1.same W, r1, fun k hk => ?_⟩, st⟩
  rw [r2 k hk]
  by_cases q : k = i
  · simp [own_up, q]
  · simp [own_up, q]
theorem own_stB (X : Stand p l e R s m args below meth c T locs cells slots) (hx : p.tables.exec = Jvm.exec) (hZ : Z.Warmed39 s.vm) (eT : T.heap = h) {n : Nat} {f : Nat → Int32} (A : own_AI Z h a .byte n f) {j x : Int32} (i : Nat) (hi : j.toInt = (i : Int)) (hn : i < n) {g : JFrame} (hg : g.method = m) {rest : List Value} (hs : g.stack = .int x :: .int j :: .ref a :: rest) (hd : decode c.code g.pc = .ok (.bastore, 1)) :
    ∃ T' h', Stand p l e R s m args below meth c T' (locs ++ [⟨a, i⟩]) cells slots ∧ T'.heap = h' ∧ Wr h h' a i (.int (x.toInt8.toInt32)) ∧ own_AI Z h' a .byte n (own_up f i (x.toInt8.toInt32)) ∧ ∀ target, Steps p.tables e below (T'.setTop { g with pc := g.pc + 1, stack := rest }) target → Steps p.tables e below (T.setTop g) target := by
  obtain ⟨cl, A1, A2, A3⟩ := A
  obtain ⟨q1, q2⟩ := own_idx hi hn A2
  obtain ⟨T', h', X', e', W, st⟩ := stB X hx hZ eT A1 q1 hg hs hd
  rw [q2] at X' W
  obtain ⟨r1, r2⟩ := own_set (v := .int (x.toInt8.toInt32)) A2 hn A3
  refine ⟨T', h', X', e', W, ⟨cl.setSlot i (.int (x.toInt8.toInt32)), A1.same W, r1, fun k hk => ?_⟩, st⟩
  rw [r2 k hk]
  by_cases q : k = i
  · simp [own_up, q]
  · simp [own_up, q]
theorem own_stJ (X : Stand p l e R s m args below meth c T locs cells slots) (hx : p.tables.exec = Jvm.exec) (hZ : Z.Warmed39 s.vm) (eT : T.heap = h) {n : Nat} {f : Nat → Int64} (A : own_AJ Z h a n f) {j : Int32} {x : Int64} (i : Nat) (hi : j.toInt = (i : Int)) (hn : i < n) {g : JFrame} (hg : g.method = m) {rest : List Value} (hs : g.stack = .long x :: .int j :: .ref a :: rest) (hd : decode c.code g.pc = .ok (.lastore, 1)) :
    ∃ T' h', Stand p l e R s m args below meth c T' (locs ++ [⟨a, i⟩]) cells slots ∧ T'.heap = h' ∧ Wr h h' a i (.long x) ∧ own_AJ Z h' a n (own_up f i x) ∧ ∀ target, Steps p.tables e below (T'.setTop { g with pc := g.pc + 1, stack := rest }) target → Steps p.tables e below (T.setTop g) target := by
  obtain ⟨cl, A1, A2, A3⟩ := A
  obtain ⟨q1, q2⟩ := own_idx hi hn A2
  obtain ⟨T', h', X', e', W, st⟩ := stJ X hx hZ eT A1 q1 hg hs hd
  rw [q2] at X' W
  obtain ⟨r1, r2⟩ := own_set (v := .long x) A2 hn A3
  refine ⟨T', h', X', e', W, ⟨cl.setSlot i (.long x), A1.same W, r1, fun k hk => ?_⟩, st⟩
  rw [r2 k hk]
  by_cases q : k = i
  · simp [own_up, q]
  · simp [own_up, q]
theorem own_ldI (X : Stand p l e R s m args below meth c T locs cells slots) (hx : p.tables.exec = Jvm.exec) (hZ : Z.Warmed39 s.vm) (eT : T.heap = h) {n : Nat} {f : Nat → Int32} (A : own_AI Z h a .int n f) {j : Int32} (i : Nat) (hi : j.toInt = (i : Int)) (hn : i < n) {g : JFrame} (hg : g.method = m) {rest : List Value} (hs : g.stack = .int j :: .ref a :: rest) (hd : decode c.code g.pc = .ok (.iaload, 1)) :
    ∀ target, Steps p.tables e below (T.setTop { g with pc := g.pc + 1, stack := .int (f i) :: rest }) target → Steps p.tables e below (T.setTop g) target := by
  obtain ⟨cl, A1, A2, A3⟩ := A
  obtain ⟨q1, q2⟩ := own_idx hi hn A2
  exact X.iaload hx (j := j) (v := .int (f i)) (by rw [eT]; exact A1.1) (State.isArrayOf_alike hZ.alike A1.2.1) A1.2.2 q1 (by rw [q2]; exact A3 i hn) hg hs hd
theorem own_ldB (X : Stand p l e R s m args below meth c T locs cells slots) (hx : p.tables.exec = Jvm.exec) (hZ : Z.Warmed39 s.vm) (eT : T.heap = h) {n : Nat} {f : Nat → Int32} (A : own_AI Z h a .byte n f) {j : Int32} (i : Nat) (hi : j.toInt = (i : Int)) (hn : i < n) {g : JFrame} (hg : g.method = m) {rest : List Value} (hs : g.stack = .int j :: .ref a :: rest) (hd : decode c.code g.pc = .ok (.baload, 1)) :
    ∀ target, Steps p.tables e below (T.setTop { g with pc := g.pc + 1, stack := .int (f i) :: rest }) target → Steps p.tables e below (T.setTop g) target := by
  obtain ⟨cl, A1, A2, A3⟩ := A
  obtain ⟨q1, q2⟩ := own_idx hi hn A2
  exact X.baloadBytes hx (j := j) (v := .int (f i)) (by rw [eT]; exact A1.1) (State.isArrayOf_alike hZ.alike A1.2.1) A1.2.2 q1 (by rw [q2]; exact A3 i hn) hg hs hd
theorem own_ldJ (X : Stand p l e R s m args below meth c T locs cells slots) (hx : p.tables.exec = Jvm.exec) (hZ : Z.Warmed39 s.vm) (eT : T.heap = h) {n : Nat} {f : Nat → Int64} (A : own_AJ Z h a n f) {j : Int32} (i : Nat) (hi : j.toInt = (i : Int)) (hn : i < n) {g : JFrame} (hg : g.method = m) {rest : List Value} (hs : g.stack = .int j :: .ref a :: rest) (hd : decode c.code g.pc = .ok (.laload, 1)) :
    ∀ target, Steps p.tables e below (T.setTop { g with pc := g.pc + 1, stack := .long (f i) :: rest }) target → Steps p.tables e below (T.setTop g) target := by
  obtain ⟨cl, A1, A2, A3⟩ := A
  obtain ⟨q1, q2⟩ := own_idx hi hn A2
  exact X.laload hx (j := j) (v := .long (f i)) (by rw [eT]; exact A1.1) (State.isArrayOf_alike hZ.alike A1.2.1) A1.2.2 q1 (by rw [q2]; exact A3 i hn) hg hs hd
theorem own_lenI (X : Stand p l e R s m args below meth c T locs cells slots) (hx : p.tables.exec = Jvm.exec) (hZ : Z.Warmed39 s.vm) (eT : T.heap = h) {ty : FieldType} {n : Nat} {f : Nat → Int32} (A : own_AI Z h a ty n f) {z : Int32} (hz : n.toInt32 = z) {g : JFrame} (hg : g.method = m) {rest : List Value} (hs : g.stack = .ref a :: rest) (hd : decode c.code g.pc = .ok (.arraylength, 1)) :
    ∀ target, Steps p.tables e below (T.setTop { g with pc := g.pc + 1, stack := .int z :: rest }) target → Steps p.tables e below (T.setTop g) target := by
  obtain ⟨cl, A1, A2, A3⟩ := A
  intro t k
  refine X.arraylength hx (by rw [eT]; exact A1.1) (State.isArrayOf_alike hZ.alike A1.2.1) hg hs hd t ?_
  rw [A2, hz]; exact k
theorem own_newI (X : Stand p l e R s m args below meth c T locs cells slots) (hx : p.tables.exec = Jvm.exec) (hZ : Z.Warmed39 s.vm) {a0 : Array Value} {aty : ArrayType} (w : (Cond.arrayClass (newarray.typeOf aty)).before a0 Z = true) (eT : T.heap = h) {g : JFrame} (hg : g.method = m) (hd : decode c.code g.pc = .ok (.newarray aty, 2)) {n : Int32} {rest : List Value} (hs : g.stack = .int n :: rest)
    {N : Nat} (hn : n.toInt = (N : Int)) (hb : N * 8 ≤ 536870912) (hc : cells + 1 ≤ R.cells) (hl : slots + N ≤ R.slots) (hdv : defaultValue (newarray.typeOf aty) = .int 0) :
    ∃ T' h', Stand p l e R s m args below meth c T' locs (cells + 1) (slots + N) ∧ T'.heap = h' ∧ Ext h h' ∧ own_AI Z h' h.size (newarray.typeOf aty) N (fun _ => 0) ∧
      ∀ target, Steps p.tables e below (T'.setTop { g with pc := g.pc + 2, stack := .ref h.size :: rest }) target → Steps p.tables e below (T.setTop g) target := by
  have e1 : n.toNatClampNeg = N := by
    show n.toInt.toNat = N
    omega
  have e2 : ¬ n < 0 := by
    rw [Int32.lt_iff_toInt_lt, hn]
    have z : (0 : Int32).toInt = 0 := by decide
    omega
  obtain ⟨T', h', cA, X', e', E, A, st⟩ := newP X hx hZ w eT hg hd hs e2 (cap := N) (by omega) hb hc hl
  refine ⟨T', h', X', e', E, ⟨_, A, by rw [sz_new, e1], fun k hk => ?_⟩, st⟩
  simp [newA, e1, hk, hdv]
theorem own_newJ (X : Stand p l e R s m args below meth c T locs cells slots) (hx : p.tables.exec = Jvm.exec) (hZ : Z.Warmed39 s.vm) {a0 : Array Value} (w : (Cond.arrayClass (newarray.typeOf .long)).before a0 Z = true) (eT : T.heap = h) {g : JFrame} (hg : g.method = m) (hd : decode c.code g.pc = .ok (.newarray .long, 2)) {n : Int32} {rest : List Value} (hs : g.stack = .int n :: rest)
    {N : Nat} (hn : n.toInt = (N : Int)) (hb : N * 8 ≤ 536870912) (hc : cells + 1 ≤ R.cells) (hl : slots + N ≤ R.slots) :
    ∃ T' h', Stand p l e R s m args below meth c T' locs (cells + 1) (slots + N) ∧ T'.heap = h' ∧ Ext h h' ∧ own_AJ Z h' h.size N (fun _ => 0) ∧
      ∀ target, Steps p.tables e below (T'.setTop { g with pc := g.pc + 2, stack := .ref h.size :: rest }) target → Steps p.tables e below (T.setTop g) target := by
  have e1 : n.toNatClampNeg = N := by
    show n.toInt.toNat = N
    omega
  have e2 : ¬ n < 0 := by
    rw [Int32.lt_iff_toInt_lt, hn]
    have z : (0 : Int32).toInt = 0 := by decide
    omega
  obtain ⟨T', h', cA, X', e', E, A, st⟩ := newP X hx hZ w eT hg hd hs e2 (cap := N) (by omega) hb hc hl
  refine ⟨T', h', X', e', E, ⟨_, A, by rw [sz_new, e1], fun k hk => ?_⟩, st⟩
  simp [newA, e1, hk, defaultValue, newarray.typeOf]
end OwnKit
theorem d7_0 : decode prog_30_method_1_code 0 = .ok (.aload_n 0, 1) := by decide +kernel
theorem d7_1 : decode prog_30_method_1_code 1 = .ok (.invokespecial 3, 3) := by decide +kernel
theorem d7_4 : decode prog_30_method_1_code 4 = .ok (.aload_n 0, 1) := by decide +kernel
theorem d7_5 : decode prog_30_method_1_code 5 = .ok (.aload_n 1, 1) := by decide +kernel
theorem d7_6 : decode prog_30_method_1_code 6 = .ok (.putfield 9, 3) := by decide +kernel
theorem d7_9 : decode prog_30_method_1_code 9 = .ok (.aload_n 0, 1) := by decide +kernel
theorem d7_10 : decode prog_30_method_1_code 10 = .ok (.iload_n 2, 1) := by decide +kernel
theorem d7_11 : decode prog_30_method_1_code 11 = .ok (.putfield 15, 3) := by decide +kernel
theorem d7_14 : decode prog_30_method_1_code 14 = .ok (.return_, 1) := by decide +kernel
theorem pn_7 : plainName "com/example/weftline/weftline/runner/CompactWire$Body" = true := by first | (simp [plainName, overriddenIn]; done) | decide +kernel
theorem ef_7 (m : MethodId) (r0 : Addr) (r1 : Addr) (p2 : Int32) : entryFrame m #[(.ref r0), (.ref r1), (.int p2)] 3 = mkF m 0 #[.val (.ref r0), .val (.ref r1), .val (.int p2)] [] := by first | (simp [entryFrame, mkF, argsToLocals, Value.category]; done) | rfl
def Q7 (Z : State) (r0 : Addr) (r1 : Addr) (p2 : Int32) (h0 : Heap) (n0 : Nat) (v : Option Value) (h : Heap) (L : List Loc) : Prop := v = none ∧ Fr n0 L ∧ n0 ≤ h.size ∧ Keep h0 h [r0] ∧ Exa Z h r0 "com/example/weftline/weftline/runner/CompactWire$Body" ∧ Fld Z h r0 "com/example/weftline/weftline/runner/CompactWire$Body" "bytes" "[B" (.ref r1) ∧ Fld Z h r0 "com/example/weftline/weftline/runner/CompactWire$Body" "end" "I" (.int p2) ∧ Fld Z h r0 "com/example/weftline/weftline/runner/CompactWire$Body" "position" "I" (.int (0 : Int32))
set_option maxRecDepth 65536 in
set_option maxHeartbeats 40000000 in
theorem rm7 (l : Launch) (Z : State) (a0 : Array Value) (hw : ∀ d ∈ tables_1, d.before a0 Z = true) (ws : List Jvm.Cond) (r0 : Addr) (r1 : Addr) (p2 : Int32) (h0 : Heap) (n0 : Nat) (Z0 : n0 ≤ h0.size) (gn_r0 : n0 ≤ r0) (E_0 : Exa Z h0 r0 "com/example/weftline/weftline/runner/CompactWire$Body") (F_bytes : Fld Z h0 r0 "com/example/weftline/weftline/runner/CompactWire$Body" "bytes" "[B" .null) (F_end : Fld Z h0 r0 "com/example/weftline/weftline/runner/CompactWire$Body" "end" "I" (.int (0 : Int32))) (F_position : Fld Z h0 r0 "com/example/weftline/weftline/runner/CompactWire$Body" "position" "I" (.int (0 : Int32))) :
    MetFree l (⟨"com/example/weftline/weftline/runner/CompactWire$Body", "<init>", "([BI)V"⟩ : MethodName) (head1 (Jvm.Cond.code (⟨"com/example/weftline/weftline/runner/CompactWire$Body", "<init>", "([BI)V"⟩ : MethodName) prog_30_method_1_code 3 none :: ws) ({ frames := 1, cells := 0, slots := 0, locals := 12 } : Room)) (fun a U => a = #[(.ref r0), (.ref r1), (.int p2)] ∧ Z.Warmed39 U.vm ∧ U.heap = h0) (fun _ _ _ _ _ => True) (fun _ U o U' => ∃ v L, o = .returned v ∧ (Q7 Z r0 r1 p2 h0 n0) v U'.heap L ∧ FrameEnd U o U' L ({ frames := 1, cells := 0, slots := 0, locals := 12 } : Room).cells ({ frames := 1, cells := 0, slots := 0, locals := 12 } : Room).slots) := by
  refine MetFree.of_bodySF (plainFor_of_name pn_7) hisR ?_
  intro p e s m args below meth c s₁ Bd hml0 hP hK
  obtain ⟨rfl, hZ, hh⟩ := hP
  have hx := Bd.exec
  have hby := Bd.bytes
  have hret := Bd.returns
  have hlk := BodyLoose.notSynchronized Bd
  have hml : c.maxLocals = 3 := hml0
  have hown : s.vm.findClass "com/example/weftline/weftline/runner/CompactWire$Body" = some m.cls := findClass_of_methodNamed Bd.named
  have hnm := (name_of_methodNamed Bd.named Bd.method).1
  have X0 : Stand p l e ({ frames := 1, cells := 0, slots := 0, locals := 12 } : Room) s m #[(.ref r0), (.ref r1), (.int p2)] below meth c s₁ [] 0 0 := Stand.of_body Bd
  have e0 : s₁.heap = h0 := by rw [← hh, Bd.state]; rfl
  have N0 := Fr.nil n0
  show own_Ends p e below s ({ frames := 1, cells := 0, slots := 0, locals := 12 } : Room).cells ({ frames := 1, cells := 0, slots := 0, locals := 12 } : Room).slots (Q7 Z r0 r1 p2 h0 n0) (s₁.setTop (entryFrame m #[(.ref r0), (.ref r1), (.int p2)] 3))
  refine own_cast (ef_7 m r0 r1 p2) ?_
  have u1 := (Keep.refl h0 [r0])
  show own_Ends p e below s _ _ _ (s₁.setTop (mkF m 0 #[.val (.ref r0), .val (.ref r1), .val (.int p2)] []))
  refine own_step (fun t k => XS.aloadN X0.here hx rfl (hb hby d7_0) rfl rfl k) ?_
  show own_Ends p e below s _ _ _ (s₁.setTop (mkF m 1 #[.val (.ref r0), .val (.ref r1), .val (.int p2)] [(.ref r0)]))
  obtain ⟨T2, X2, e2, st2⟩ := initO X0 hx hZ hown (hw _ (List.mem_of_getElem? (i := 37) rfl)) (hw _ (List.mem_of_getElem? (i := 25) rfl)) (hw _ (List.mem_of_getElem? (i := 26) rfl)) e0 (g := (mkF m 1 #[.val (.ref r0), .val (.ref r1), .val (.int p2)] [(.ref r0)])) rfl (by rw [hml]; rfl) rfl (hb hby d7_1) (by decide) (W := 0) (by show 2 * 0 + _ ≤ _; exact Nat.le_of_eq rfl) (by decide)
  refine own_step st2 ?_
  show own_Ends p e below s _ _ _ (T2.setTop (mkF m 4 #[.val (.ref r0), .val (.ref r1), .val (.int p2)] []))
  refine own_step (fun t k => XS.aloadN X2.here hx rfl (hb hby d7_4) rfl rfl k) ?_
  show own_Ends p e below s _ _ _ (T2.setTop (mkF m 5 #[.val (.ref r0), .val (.ref r1), .val (.int p2)] [(.ref r0)]))
  refine own_step (fun t k => XS.aloadN X2.here hx rfl (hb hby d7_5) rfl rfl k) ?_
  show own_Ends p e below s _ _ _ (T2.setTop (mkF m 6 #[.val (.ref r0), .val (.ref r1), .val (.int p2)] [(.ref r1), (.ref r0)]))
  obtain ⟨T3, h3, X3, e3, W3, st3⟩ := putF X2 hx hZ hown (host := "") (Or.inl (hw _ (List.mem_of_getElem? (i := 38) rfl))) Via.refl e2 F_bytes E_0 (Or.inr ⟨(hw _ (List.mem_of_getElem? (i := 39) rfl)), rfl, hnm⟩) (hw _ (List.mem_of_getElem? (i := 32) rfl)) (ty := (.array .byte)) (by decide) rfl rfl (g := (mkF m 6 #[.val (.ref r0), .val (.ref r1), .val (.int p2)] [(.ref r1), (.ref r0)])) rfl rfl (hb hby d7_6)
  refine own_step st3 ?_
  have N3 := Fr.snoc X3 N0 gn_r0
  have Z3 : n0 ≤ h3.size := by rw [W3.size]; exact Z0
  have u4 := (E_0.wr W3)
  have u5 := (F_bytes.same W3)
  have u6 := (F_end.other W3 (Or.inr (slot_ne (Or.inr (hw _ (List.mem_of_getElem? (i := 41) rfl))) (Or.inr (hw _ (List.mem_of_getElem? (i := 39) rfl))) (by decide) (t := .int) (t' := (.array .byte)) (by decide) (by decide))))
  have u7 := (F_position.other W3 (Or.inr (slot_ne (Or.inl (hw _ (List.mem_of_getElem? (i := 49) rfl))) (Or.inr (hw _ (List.mem_of_getElem? (i := 39) rfl))) (by decide) (t := .int) (t' := (.array .byte)) (by decide) (by decide))))
  have u8 := (u1.wr W3 (Or.inl (List.mem_of_getElem? (i := 0) rfl)))
  show own_Ends p e below s _ _ _ (T3.setTop (mkF m 9 #[.val (.ref r0), .val (.ref r1), .val (.int p2)] []))
  refine own_step (fun t k => XS.aloadN X3.here hx rfl (hb hby d7_9) rfl rfl k) ?_
  show own_Ends p e below s _ _ _ (T3.setTop (mkF m 10 #[.val (.ref r0), .val (.ref r1), .val (.int p2)] [(.ref r0)]))
  refine own_step (fun t k => XS.iloadN X3.here hx rfl (hb hby d7_10) rfl k) ?_
  show own_Ends p e below s _ _ _ (T3.setTop (mkF m 11 #[.val (.ref r0), .val (.ref r1), .val (.int p2)] [(.int p2), (.ref r0)]))
  obtain ⟨T9, h9, X9, e9, W9, st9⟩ := putF X3 hx hZ hown (host := "") (Or.inl (hw _ (List.mem_of_getElem? (i := 40) rfl))) Via.refl e3 u6 u4 (Or.inr ⟨(hw _ (List.mem_of_getElem? (i := 41) rfl)), rfl, hnm⟩) (hw _ (List.mem_of_getElem? (i := 32) rfl)) (ty := .int) (by decide) rfl rfl (g := (mkF m 11 #[.val (.ref r0), .val (.ref r1), .val (.int p2)] [(.int p2), (.ref r0)])) rfl rfl (hb hby d7_11)
  refine own_step st9 ?_
  have N9 := Fr.snoc X9 N3 gn_r0
  have Z9 : n0 ≤ h9.size := by rw [W9.size]; exact Z3
  have u10 := (u4.wr W9)
  have u11 := (u5.other W9 (Or.inr (slot_ne (Or.inr (hw _ (List.mem_of_getElem? (i := 39) rfl))) (Or.inr (hw _ (List.mem_of_getElem? (i := 41) rfl))) (by decide) (t := (.array .byte)) (t' := .int) (by decide) (by decide))))
  have u12 := (u6.same W9)
  have u13 := (u7.other W9 (Or.inr (slot_ne (Or.inl (hw _ (List.mem_of_getElem? (i := 49) rfl))) (Or.inr (hw _ (List.mem_of_getElem? (i := 41) rfl))) (by decide) (t := .int) (t' := .int) (by decide) (by decide))))
  have u14 := (u8.wr W9 (Or.inl (List.mem_of_getElem? (i := 0) rfl)))
  show own_Ends p e below s _ _ _ (T9.setTop (mkF m 14 #[.val (.ref r0), .val (.ref r1), .val (.int p2)] []))
  exact own_ret0 X9 hx hlk hret (hb hby d7_14) (by rw [e9]; exact ⟨rfl, N9, Z9, u14, u10, u11, u12, u13⟩) (by decide) (by decide)
theorem d9_0 : decode prog_30_method_2_code 0 = .ok (.aload_n 0, 1) := by decide +kernel
theorem d9_1 : decode prog_30_method_2_code 1 = .ok (.getfield 19, 3) := by decide +kernel
theorem d9_4 : decode prog_30_method_2_code 4 = .ok (.aload_n 0, 1) := by decide +kernel
theorem d9_5 : decode prog_30_method_2_code 5 = .ok (.getfield 15, 3) := by decide +kernel
theorem d9_8 : decode prog_30_method_2_code 8 = .ok (.if_icmp .ge 7, 3) := by decide +kernel
theorem d9_11 : decode prog_30_method_2_code 11 = .ok (.iconst 1, 1) := by decide +kernel
theorem d9_12 : decode prog_30_method_2_code 12 = .ok (.goto 4, 3) := by decide +kernel
theorem d9_15 : decode prog_30_method_2_code 15 = .ok (.iconst 0, 1) := by decide +kernel
theorem d9_16 : decode prog_30_method_2_code 16 = .ok (.ireturn, 1) := by decide +kernel
theorem pn_9 : plainName "com/example/weftline/weftline/runner/CompactWire$Body" = true := by first | (simp [plainName, overriddenIn]; done) | decide +kernel
theorem ef_9 (m : MethodId) (r0 : Addr) : entryFrame m #[(.ref r0)] 1 = mkF m 0 #[.val (.ref r0)] [] := by first | (simp [entryFrame, mkF, argsToLocals, Value.category]; done) | rfl
def f9_0 (vp : Int32) (ve : Int32) : Int32 := (if vp < ve then (1 : Int32) else (0 : Int32))
def Q9 (Z : State) (r0 : Addr) (vp : Int32) (ve : Int32) (h0 : Heap) (n0 : Nat) (v : Option Value) (h : Heap) (L : List Loc) : Prop := v = some (.int (f9_0 vp ve)) ∧ Fr n0 L ∧ h = h0
set_option maxRecDepth 65536 in
set_option maxHeartbeats 40000000 in
theorem rm9 (l : Launch) (Z : State) (a0 : Array Value) (hw : ∀ d ∈ tables_1, d.before a0 Z = true) (ws : List Jvm.Cond) (r0 : Addr) (vp : Int32) (ve : Int32) (h0 : Heap) (n0 : Nat) (F_position : Fld Z h0 r0 "com/example/weftline/weftline/runner/CompactWire$Body" "position" "I" (.int vp)) (F_end : Fld Z h0 r0 "com/example/weftline/weftline/runner/CompactWire$Body" "end" "I" (.int ve)) :
    MetFree l (⟨"com/example/weftline/weftline/runner/CompactWire$Body", "more", "()Z"⟩ : MethodName) (head1 (Jvm.Cond.code (⟨"com/example/weftline/weftline/runner/CompactWire$Body", "more", "()Z"⟩ : MethodName) prog_30_method_2_code 1 (some .boolean) :: ws) ({ frames := 0, cells := 0, slots := 0, locals := 0 } : Room)) (fun a U => a = #[(.ref r0)] ∧ Z.Warmed39 U.vm ∧ U.heap = h0) (fun _ _ _ _ _ => True) (fun _ U o U' => ∃ v L, o = .returned v ∧ (Q9 Z r0 vp ve h0 n0) v U'.heap L ∧ FrameEnd U o U' L ({ frames := 0, cells := 0, slots := 0, locals := 0 } : Room).cells ({ frames := 0, cells := 0, slots := 0, locals := 0 } : Room).slots) := by
  refine MetFree.of_bodySF (plainFor_of_name pn_9) hisR ?_
  intro p e s m args below meth c s₁ Bd hml0 hP hK
  obtain ⟨rfl, hZ, hh⟩ := hP
  have hx := Bd.exec
  have hby := Bd.bytes
  have hret := Bd.returns
  have hlk := BodyLoose.notSynchronized Bd
  have hml : c.maxLocals = 1 := hml0
  have hown : s.vm.findClass "com/example/weftline/weftline/runner/CompactWire$Body" = some m.cls := findClass_of_methodNamed Bd.named
  have hnm := (name_of_methodNamed Bd.named Bd.method).1
  have X0 : Stand p l e ({ frames := 0, cells := 0, slots := 0, locals := 0 } : Room) s m #[(.ref r0)] below meth c s₁ [] 0 0 := Stand.of_body Bd
  have e0 : s₁.heap = h0 := by rw [← hh, Bd.state]; rfl
  have N0 := Fr.nil n0
  show own_Ends p e below s ({ frames := 0, cells := 0, slots := 0, locals := 0 } : Room).cells ({ frames := 0, cells := 0, slots := 0, locals := 0 } : Room).slots (Q9 Z r0 vp ve h0 n0) (s₁.setTop (entryFrame m #[(.ref r0)] 1))
  refine own_cast (ef_9 m r0) ?_
  show own_Ends p e below s _ _ _ (s₁.setTop (mkF m 0 #[.val (.ref r0)] []))
  refine own_step (fun t k => XS.aloadN X0.here hx rfl (hb hby d9_0) rfl rfl k) ?_
  show own_Ends p e below s _ _ _ (s₁.setTop (mkF m 1 #[.val (.ref r0)] [(.ref r0)]))
  obtain ⟨T1, X1, e1, st1⟩ := getF X0 hx hZ hown (host := "") (Or.inl (hw _ (List.mem_of_getElem? (i := 48) rfl))) Via.refl e0 F_position (g := (mkF m 1 #[.val (.ref r0)] [(.ref r0)])) rfl rfl (hb hby d9_1)
  refine own_step st1 ?_
  show own_Ends p e below s _ _ _ (T1.setTop (mkF m 4 #[.val (.ref r0)] [(.int vp)]))
  refine own_step (fun t k => XS.aloadN X1.here hx rfl (hb hby d9_4) rfl rfl k) ?_
  show own_Ends p e below s _ _ _ (T1.setTop (mkF m 5 #[.val (.ref r0)] [(.ref r0), (.int vp)]))
  obtain ⟨T2, X2, e2, st2⟩ := getF X1 hx hZ hown (host := "") (Or.inl (hw _ (List.mem_of_getElem? (i := 40) rfl))) Via.refl e1 F_end (g := (mkF m 5 #[.val (.ref r0)] [(.ref r0), (.int vp)])) rfl rfl (hb hby d9_5)
  refine own_step st2 ?_
  show own_Ends p e below s _ _ _ (T2.setTop (mkF m 8 #[.val (.ref r0)] [(.int ve), (.int vp)]))
  by_cases hc8_3 : vp < ve
  · -- vp < ve
    refine own_step (fun t k => XS.icmpNo X2.here hx rfl (hb hby d9_8) rfl (tlt hc8_3).2.1 k) ?_
    show own_Ends p e below s _ _ _ (T2.setTop (mkF m 11 #[.val (.ref r0)] []))
    refine own_step (fun t k => XS.iconst X2.here hx rfl (hb hby d9_11) k) ?_
    show own_Ends p e below s _ _ _ (T2.setTop (mkF m 12 #[.val (.ref r0)] [(.int (1 : Int32))]))
    refine own_step (fun t k => XS.goto X2.here hx rfl (pc0 := 12) (pc' := 16) rfl (hb hby d9_12) (by decide) (by decide) k) ?_
    show own_Ends p e below s _ _ _ (T2.setTop (mkF m 16 #[.val (.ref r0)] [(.int (1 : Int32))]))
    exact own_retN X2 hx hlk (t := .boolean) hret (by simp) (hb hby d9_16) (w := (1 : Int32)) (by decide) ⟨congrArg (fun w => some (Value.int w)) (Eq.symm ((show f9_0 vp ve = _ from rfl).trans (if_pos hc8_3))), N0, e2⟩ (by decide) (by decide)
  · -- not vp < ve
    refine own_step (fun t k => XS.icmpYes X2.here hx rfl (pc0 := 8) (pc' := 15) rfl (hb hby d9_8) rfl (flt hc8_3).2.1 (by decide) (by decide) k) ?_
    show own_Ends p e below s _ _ _ (T2.setTop (mkF m 15 #[.val (.ref r0)] []))
    refine own_step (fun t k => XS.iconst X2.here hx rfl (hb hby d9_15) k) ?_
    show own_Ends p e below s _ _ _ (T2.setTop (mkF m 16 #[.val (.ref r0)] [(.int (0 : Int32))]))
    exact own_retN X2 hx hlk (t := .boolean) hret (by simp) (hb hby d9_16) (w := (0 : Int32)) (by decide) ⟨congrArg (fun w => some (Value.int w)) (Eq.symm ((show f9_0 vp ve = _ from rfl).trans (if_neg hc8_3))), N0, e2⟩ (by decide) (by decide)
def own_acc (f : Nat → Int32) (P : Nat) : Nat → Int64
  | 0 => 0
  | i + 1 => own_acc f P i ||| (((f (P + i) &&& (255 : Int32)) &&& (127 : Int32)).toInt64 <<< (Int32.ofNat (7 * i) &&& 0x3f).toInt64)
theorem own_shI {i : Nat} (h : i ≤ 20) : (Int32.ofNat (7 * i)).toInt = ((7 * i : Nat) : Int) := Int32.toInt_ofNat_of_lt (by omega)
theorem own_sh64 {i : Nat} (h : i ≤ 9) : (Int32.ofNat (7 * i)) < (64 : Int32) := by
  have e := own_shI (i := i) (by omega)
  rw [Int32.lt_iff_toInt_lt, e]
  have z : (64 : Int32).toInt = 64 := by decide
  omega
theorem own_is9 {i : Nat} (h : i ≤ 9) (q : (Int32.ofNat (7 * i)) = (63 : Int32)) : i = 9 := by
  have e := own_shI (i := i) (by omega)
  rw [q] at e
  have z : (63 : Int32).toInt = 63 := by decide
  omega
theorem own_shS {i : Nat} (h : i ≤ 9) : Int32.ofNat (7 * i) + (7 : Int32) = Int32.ofNat (7 * (i + 1)) := by
  apply Int32.toInt_inj.mp
  have e := own_shI (i := i) (by omega)
  have e' := own_shI (i := i + 1) (by omega)
  have a := c_iadd (Int32.ofNat (7 * i)) 7
  have r := rng32 (Int32.ofNat (7 * i) + 7)
  have z : (7 : Int32).toInt = 7 := by decide
  omega
theorem own_w1 {w : Int32} {n : Nat} (h : w.toInt = (n : Int)) (hn : n < 1000) : (w + (1 : Int32)).toInt = ((n + 1 : Nat) : Int) := by
  have a := c_iadd w 1
  have r := rng32 (w + 1)
  have z : (1 : Int32).toInt = 1 := by decide
  omega
theorem osV {r : Addr} {q : Int64} {z v : Int32} {s4 : Slot} (h : One s4) : storeLocals #[.val (.ref r), .val (.long q), .second, .val (.int z), s4] 4 (.int v) = some #[.val (.ref r), .val (.long q), .second, .val (.int z), .val (.int v)] := by
  rcases h with rfl | ⟨w, rfl, hw⟩
  · rfl
  · cases w <;> first | rfl | (simp [Value.category] at hw)
theorem d10_0 : decode prog_30_method_3_code 0 = .ok (.lconst 0, 1) := by decide +kernel
theorem d10_1 : decode prog_30_method_3_code 1 = .ok (.lstore_n 1, 1) := by decide +kernel
theorem d10_2 : decode prog_30_method_3_code 2 = .ok (.iconst 0, 1) := by decide +kernel
theorem d10_3 : decode prog_30_method_3_code 3 = .ok (.istore_n 3, 1) := by decide +kernel
theorem d10_4 : decode prog_30_method_3_code 4 = .ok (.iload_n 3, 1) := by decide +kernel
theorem d10_5 : decode prog_30_method_3_code 5 = .ok (.bipush 64, 2) := by decide +kernel
theorem d10_7 : decode prog_30_method_3_code 7 = .ok (.if_icmp .ge 89, 3) := by decide +kernel
theorem d10_10 : decode prog_30_method_3_code 10 = .ok (.aload_n 0, 1) := by decide +kernel
theorem d10_11 : decode prog_30_method_3_code 11 = .ok (.getfield 19, 3) := by decide +kernel
theorem d10_14 : decode prog_30_method_3_code 14 = .ok (.aload_n 0, 1) := by decide +kernel
theorem d10_15 : decode prog_30_method_3_code 15 = .ok (.getfield 15, 3) := by decide +kernel
theorem d10_18 : decode prog_30_method_3_code 18 = .ok (.if_icmp .ne 13, 3) := by decide +kernel
theorem d10_21 : decode prog_30_method_3_code 21 = .ok (.new 22, 3) := by decide +kernel
theorem d10_24 : decode prog_30_method_3_code 24 = .ok (.dup, 1) := by decide +kernel
theorem d10_25 : decode prog_30_method_3_code 25 = .ok (.ldc 24, 2) := by decide +kernel
theorem d10_27 : decode prog_30_method_3_code 27 = .ok (.invokespecial 26, 3) := by decide +kernel
theorem d10_30 : decode prog_30_method_3_code 30 = .ok (.athrow, 1) := by decide +kernel
theorem d10_31 : decode prog_30_method_3_code 31 = .ok (.aload_n 0, 1) := by decide +kernel
theorem d10_32 : decode prog_30_method_3_code 32 = .ok (.getfield 9, 3) := by decide +kernel
theorem d10_35 : decode prog_30_method_3_code 35 = .ok (.aload_n 0, 1) := by decide +kernel
theorem d10_36 : decode prog_30_method_3_code 36 = .ok (.dup, 1) := by decide +kernel
theorem d10_37 : decode prog_30_method_3_code 37 = .ok (.getfield 19, 3) := by decide +kernel
theorem d10_40 : decode prog_30_method_3_code 40 = .ok (.dup_x1, 1) := by decide +kernel
theorem d10_41 : decode prog_30_method_3_code 41 = .ok (.iconst 1, 1) := by decide +kernel
theorem d10_42 : decode prog_30_method_3_code 42 = .ok (.iadd, 1) := by decide +kernel
theorem d10_43 : decode prog_30_method_3_code 43 = .ok (.putfield 19, 3) := by decide +kernel
theorem d10_46 : decode prog_30_method_3_code 46 = .ok (.baload, 1) := by decide +kernel
theorem d10_47 : decode prog_30_method_3_code 47 = .ok (.sipush 255, 3) := by decide +kernel
theorem d10_50 : decode prog_30_method_3_code 50 = .ok (.iand, 1) := by decide +kernel
theorem d10_51 : decode prog_30_method_3_code 51 = .ok (.istore 4, 2) := by decide +kernel
theorem d10_53 : decode prog_30_method_3_code 53 = .ok (.iload_n 3, 1) := by decide +kernel
theorem d10_54 : decode prog_30_method_3_code 54 = .ok (.bipush 63, 2) := by decide +kernel
theorem d10_56 : decode prog_30_method_3_code 56 = .ok (.if_icmp .ne 12, 3) := by decide +kernel
theorem d10_59 : decode prog_30_method_3_code 59 = .ok (.iload 4, 2) := by decide +kernel
theorem d10_61 : decode prog_30_method_3_code 61 = .ok (.iconst 1, 1) := by decide +kernel
theorem d10_62 : decode prog_30_method_3_code 62 = .ok (.if_icmp .le 6, 3) := by decide +kernel
theorem d10_65 : decode prog_30_method_3_code 65 = .ok (.goto 31, 3) := by decide +kernel
theorem d10_68 : decode prog_30_method_3_code 68 = .ok (.lload_n 1, 1) := by decide +kernel
theorem d10_69 : decode prog_30_method_3_code 69 = .ok (.iload 4, 2) := by decide +kernel
theorem d10_71 : decode prog_30_method_3_code 71 = .ok (.bipush 127, 2) := by decide +kernel
theorem d10_73 : decode prog_30_method_3_code 73 = .ok (.iand, 1) := by decide +kernel
theorem d10_74 : decode prog_30_method_3_code 74 = .ok (.i2l, 1) := by decide +kernel
theorem d10_75 : decode prog_30_method_3_code 75 = .ok (.iload_n 3, 1) := by decide +kernel
theorem d10_76 : decode prog_30_method_3_code 76 = .ok (.lshl, 1) := by decide +kernel
theorem d10_77 : decode prog_30_method_3_code 77 = .ok (.lor, 1) := by decide +kernel
theorem d10_78 : decode prog_30_method_3_code 78 = .ok (.lstore_n 1, 1) := by decide +kernel
theorem d10_79 : decode prog_30_method_3_code 79 = .ok (.iload 4, 2) := by decide +kernel
theorem d10_81 : decode prog_30_method_3_code 81 = .ok (.sipush 128, 3) := by decide +kernel
theorem d10_84 : decode prog_30_method_3_code 84 = .ok (.iand, 1) := by decide +kernel
theorem d10_85 : decode prog_30_method_3_code 85 = .ok (.ifCond .ne 5, 3) := by decide +kernel
theorem d10_88 : decode prog_30_method_3_code 88 = .ok (.lload_n 1, 1) := by decide +kernel
theorem d10_89 : decode prog_30_method_3_code 89 = .ok (.lreturn, 1) := by decide +kernel
theorem d10_90 : decode prog_30_method_3_code 90 = .ok (.iinc 3 7, 3) := by decide +kernel
theorem d10_93 : decode prog_30_method_3_code 93 = .ok (.goto (-89), 3) := by decide +kernel
theorem d10_96 : decode prog_30_method_3_code 96 = .ok (.new 22, 3) := by decide +kernel
theorem d10_99 : decode prog_30_method_3_code 99 = .ok (.dup, 1) := by decide +kernel
theorem d10_100 : decode prog_30_method_3_code 100 = .ok (.ldc 29, 2) := by decide +kernel
theorem d10_102 : decode prog_30_method_3_code 102 = .ok (.invokespecial 26, 3) := by decide +kernel
theorem d10_105 : decode prog_30_method_3_code 105 = .ok (.athrow, 1) := by decide +kernel
theorem pn_10 : plainName "com/example/weftline/weftline/runner/CompactWire$Body" = true := by first | (simp [plainName, overriddenIn]; done) | decide +kernel
theorem ef_10 (m : MethodId) (r0 : Addr) : entryFrame m #[(.ref r0)] 5 = mkF m 0 #[.val (.ref r0), .unset, .unset, .unset, .unset] [] := by first | (simp [entryFrame, mkF, argsToLocals, Value.category]; done) | rfl
def Q10 (Z : State) (r0 rb : Addr) (en : Int32) (f : Nat → Int32) (P j : Nat) (h0 : Heap) (n0 : Nat) (v : Option Value) (h : Heap) (L : List Loc) : Prop := v = some (.long (own_acc f P (j + 1))) ∧ Fr n0 L ∧ n0 ≤ h.size ∧ Keep h0 h [r0] ∧ Exa Z h r0 "com/example/weftline/weftline/runner/CompactWire$Body" ∧ Fld Z h r0 "com/example/weftline/weftline/runner/CompactWire$Body" "bytes" "[B" (.ref rb) ∧ Fld Z h r0 "com/example/weftline/weftline/runner/CompactWire$Body" "end" "I" (.int en) ∧ ∃ w : Int32, w.toInt = ((P + j + 1 : Nat) : Int) ∧ Fld Z h r0 "com/example/weftline/weftline/runner/CompactWire$Body" "position" "I" (.int w)
set_option maxRecDepth 65536 in
set_option maxHeartbeats 40000000 in
theorem loopV {p : Program} {l : Launch} {e : Env} {s : State} {m : MethodId} {args : Array Value} {below : List Frame} {meth : Method} {c : Code} {Z : State} {a0 : Array Value} {h0 : Heap} {n0 : Nat} (r0 rb : Addr) (en : Int32) (nb : Nat) (f : Nat → Int32) (P j : Nat)
    (hx : p.tables.exec = Jvm.exec) (hZ : Z.Warmed39 s.vm) (hw : ∀ d ∈ tables_1, d.before a0 Z = true) (hby : c.code = prog_30_method_3_code) (hml : c.maxLocals = 5) (hown : s.vm.findClass "com/example/weftline/weftline/runner/CompactWire$Body" = some m.cls) (hret : meth.sig.returnType = some .long) (hlk : meth.locks = false) (gn_r0 : n0 ≤ r0) (ne_rb_r0 : rb ≠ r0) (hj : j ≤ 9) (hlen : P + j < nb) (hnb : nb ≤ 900) (hmore : ∀ i, i < j → ¬ (((f (P + i)) &&& (255 : Int32)) &&& (128 : Int32)) = (0 : Int32)) (hlast : (((f (P + j)) &&& (255 : Int32)) &&& (128 : Int32)) = (0 : Int32)) (hnine : j = 9 → ¬ ((1 : Int32) < ((f (P + 9)) &&& (255 : Int32)))) (hend : ∀ i, i ≤ j → ((P + i : Nat) : Int) ≠ en.toInt) :
    ∀ (k i : Nat) (hik : i + k = j) (T : State) (locs : List Loc) (hh : Heap) (w : Int32) (s4 : Slot) (hs4 : One s4) (hwi : w.toInt = ((P + i : Nat) : Int)) (X0 : Stand p l e ({ frames := 0, cells := 0, slots := 0, locals := 0 } : Room) s m args below meth c T locs 0 0) (e0 : T.heap = hh) (N0 : Fr n0 locs) (Z0 : n0 ≤ hh.size) (K_0 : Keep h0 hh [r0]) (E_0 : Exa Z hh r0 "com/example/weftline/weftline/runner/CompactWire$Body") (F_bytes : Fld Z hh r0 "com/example/weftline/weftline/runner/CompactWire$Body" "bytes" "[B" (.ref rb)) (F_end : Fld Z hh r0 "com/example/weftline/weftline/runner/CompactWire$Body" "end" "I" (.int en)) (F_position : Fld Z hh r0 "com/example/weftline/weftline/runner/CompactWire$Body" "position" "I" (.int w)) (A_0 : own_AI Z hh rb .byte nb f),
      own_Ends p e below s ({ frames := 0, cells := 0, slots := 0, locals := 0 } : Room).cells ({ frames := 0, cells := 0, slots := 0, locals := 0 } : Room).slots (Q10 Z r0 rb en f P j h0 n0) (T.setTop (mkF m 4 #[.val (.ref r0), .val (.long (own_acc f P i)), .second, .val (.int (Int32.ofNat (7 * i))), s4] [])) := by
  intro k
  induction k with
  | zero =>
    intro i hik T locs hh w s4 hs4 hwi X0 e0 N0 Z0 K_0 E_0 F_bytes F_end F_position A_0
    have hi9 : i ≤ 9 := by omega
    have hlt : P + i < nb := by omega
    have hne : ¬ w = en := fun q => hend i (by omega) (hwi.symm.trans (congrArg Int32.toInt q))
    have hij : i = j := by omega
    have hbit : (((f (P + i)) &&& (255 : Int32)) &&& (128 : Int32)) = (0 : Int32) := by rw [hij]; exact hlast
    have hn9 : i = 9 → ¬ ((1 : Int32) < ((f (P + i)) &&& (255 : Int32))) := fun q => by rw [q]; exact hnine (by omega)
    show own_Ends p e below s _ _ _ (T.setTop (mkF m 4 #[.val (.ref r0), .val (.long (own_acc f P i)), .second, .val (.int (Int32.ofNat (7 * i))), s4] []))
    refine own_step (fun t k => XS.iloadN X0.here hx rfl (hb hby d10_4) rfl k) ?_
    show own_Ends p e below s _ _ _ (T.setTop (mkF m 5 #[.val (.ref r0), .val (.long (own_acc f P i)), .second, .val (.int (Int32.ofNat (7 * i))), s4] [(.int (Int32.ofNat (7 * i)))]))
    refine own_step (fun t k => XS.bipush X0.here hx rfl (hb hby d10_5) k) ?_
    show own_Ends p e below s _ _ _ (T.setTop (mkF m 7 #[.val (.ref r0), .val (.long (own_acc f P i)), .second, .val (.int (Int32.ofNat (7 * i))), s4] [(.int (64 : Int32)), (.int (Int32.ofNat (7 * i)))]))
    refine own_step (fun t k => XS.icmpNo X0.here hx rfl (hb hby d10_7) rfl (tlt (own_sh64 hi9)).2.1 k) ?_
    show own_Ends p e below s _ _ _ (T.setTop (mkF m 10 #[.val (.ref r0), .val (.long (own_acc f P i)), .second, .val (.int (Int32.ofNat (7 * i))), s4] []))
    refine own_step (fun t k => XS.aloadN X0.here hx rfl (hb hby d10_10) rfl rfl k) ?_
    show own_Ends p e below s _ _ _ (T.setTop (mkF m 11 #[.val (.ref r0), .val (.long (own_acc f P i)), .second, .val (.int (Int32.ofNat (7 * i))), s4] [(.ref r0)]))
    obtain ⟨T1, X1, e1, st1⟩ := getF X0 hx hZ hown (host := "") (Or.inl (hw _ (List.mem_of_getElem? (i := 48) rfl))) Via.refl e0 F_position (g := (mkF m 11 #[.val (.ref r0), .val (.long (own_acc f P i)), .second, .val (.int (Int32.ofNat (7 * i))), s4] [(.ref r0)])) rfl rfl (hb hby d10_11)
    refine own_step st1 ?_
    show own_Ends p e below s _ _ _ (T1.setTop (mkF m 14 #[.val (.ref r0), .val (.long (own_acc f P i)), .second, .val (.int (Int32.ofNat (7 * i))), s4] [(.int w)]))
    refine own_step (fun t k => XS.aloadN X1.here hx rfl (hb hby d10_14) rfl rfl k) ?_
    show own_Ends p e below s _ _ _ (T1.setTop (mkF m 15 #[.val (.ref r0), .val (.long (own_acc f P i)), .second, .val (.int (Int32.ofNat (7 * i))), s4] [(.ref r0), (.int w)]))
    obtain ⟨T2, X2, e2, st2⟩ := getF X1 hx hZ hown (host := "") (Or.inl (hw _ (List.mem_of_getElem? (i := 40) rfl))) Via.refl e1 F_end (g := (mkF m 15 #[.val (.ref r0), .val (.long (own_acc f P i)), .second, .val (.int (Int32.ofNat (7 * i))), s4] [(.ref r0), (.int w)])) rfl rfl (hb hby d10_15)
    refine own_step st2 ?_
    show own_Ends p e below s _ _ _ (T2.setTop (mkF m 18 #[.val (.ref r0), .val (.long (own_acc f P i)), .second, .val (.int (Int32.ofNat (7 * i))), s4] [(.int en), (.int w)]))
    refine own_step (fun t k => XS.icmpYes X2.here hx rfl (pc0 := 18) (pc' := 31) rfl (hb hby d10_18) rfl (feq hne).2 (by decide) (by decide) k) ?_
    show own_Ends p e below s _ _ _ (T2.setTop (mkF m 31 #[.val (.ref r0), .val (.long (own_acc f P i)), .second, .val (.int (Int32.ofNat (7 * i))), s4] []))
    refine own_step (fun t k => XS.aloadN X2.here hx rfl (hb hby d10_31) rfl rfl k) ?_
    show own_Ends p e below s _ _ _ (T2.setTop (mkF m 32 #[.val (.ref r0), .val (.long (own_acc f P i)), .second, .val (.int (Int32.ofNat (7 * i))), s4] [(.ref r0)]))
    obtain ⟨T3, X3, e3, st3⟩ := getF X2 hx hZ hown (host := "") (Or.inl (hw _ (List.mem_of_getElem? (i := 38) rfl))) Via.refl e2 F_bytes (g := (mkF m 32 #[.val (.ref r0), .val (.long (own_acc f P i)), .second, .val (.int (Int32.ofNat (7 * i))), s4] [(.ref r0)])) rfl rfl (hb hby d10_32)
    refine own_step st3 ?_
    show own_Ends p e below s _ _ _ (T3.setTop (mkF m 35 #[.val (.ref r0), .val (.long (own_acc f P i)), .second, .val (.int (Int32.ofNat (7 * i))), s4] [(.ref rb)]))
    refine own_step (fun t k => XS.aloadN X3.here hx rfl (hb hby d10_35) rfl rfl k) ?_
    show own_Ends p e below s _ _ _ (T3.setTop (mkF m 36 #[.val (.ref r0), .val (.long (own_acc f P i)), .second, .val (.int (Int32.ofNat (7 * i))), s4] [(.ref r0), (.ref rb)]))
    refine own_step (fun t k => XS.dup X3.here hx rfl (hb hby d10_36) rfl rfl k) ?_
    show own_Ends p e below s _ _ _ (T3.setTop (mkF m 37 #[.val (.ref r0), .val (.long (own_acc f P i)), .second, .val (.int (Int32.ofNat (7 * i))), s4] [(.ref r0), (.ref r0), (.ref rb)]))
    obtain ⟨T4, X4, e4, st4⟩ := getF X3 hx hZ hown (host := "") (Or.inl (hw _ (List.mem_of_getElem? (i := 48) rfl))) Via.refl e3 F_position (g := (mkF m 37 #[.val (.ref r0), .val (.long (own_acc f P i)), .second, .val (.int (Int32.ofNat (7 * i))), s4] [(.ref r0), (.ref r0), (.ref rb)])) rfl rfl (hb hby d10_37)
    refine own_step st4 ?_
    show own_Ends p e below s _ _ _ (T4.setTop (mkF m 40 #[.val (.ref r0), .val (.long (own_acc f P i)), .second, .val (.int (Int32.ofNat (7 * i))), s4] [(.int w), (.ref r0), (.ref rb)]))
    refine own_step (fun t k => XS.dupX1 X4.here hx rfl (hb hby d10_40) rfl rfl rfl k) ?_
    show own_Ends p e below s _ _ _ (T4.setTop (mkF m 41 #[.val (.ref r0), .val (.long (own_acc f P i)), .second, .val (.int (Int32.ofNat (7 * i))), s4] [(.int w), (.ref r0), (.int w), (.ref rb)]))
    refine own_step (fun t k => XS.iconst X4.here hx rfl (hb hby d10_41) k) ?_
    show own_Ends p e below s _ _ _ (T4.setTop (mkF m 42 #[.val (.ref r0), .val (.long (own_acc f P i)), .second, .val (.int (Int32.ofNat (7 * i))), s4] [(.int (1 : Int32)), (.int w), (.ref r0), (.int w), (.ref rb)]))
    refine own_step (fun t k => XS.iadd X4.here hx rfl (hb hby d10_42) rfl k) ?_
    show own_Ends p e below s _ _ _ (T4.setTop (mkF m 43 #[.val (.ref r0), .val (.long (own_acc f P i)), .second, .val (.int (Int32.ofNat (7 * i))), s4] [(.int (w + (1 : Int32))), (.ref r0), (.int w), (.ref rb)]))
    obtain ⟨T5, h5, X5, e5, W5, st5⟩ := putF X4 hx hZ hown (host := "") (Or.inl (hw _ (List.mem_of_getElem? (i := 48) rfl))) Via.refl e4 F_position E_0 (Or.inl (hw _ (List.mem_of_getElem? (i := 49) rfl))) (hw _ (List.mem_of_getElem? (i := 32) rfl)) (ty := .int) (by decide) rfl rfl (g := (mkF m 43 #[.val (.ref r0), .val (.long (own_acc f P i)), .second, .val (.int (Int32.ofNat (7 * i))), s4] [(.int (w + (1 : Int32))), (.ref r0), (.int w), (.ref rb)])) rfl rfl (hb hby d10_43)
    refine own_step st5 ?_
    have N5 := Fr.snoc X5 N0 gn_r0
    have Z5 : n0 ≤ h5.size := by rw [W5.size]; exact Z0
    have u6 := (K_0.wr W5 (Or.inl (List.mem_of_getElem? (i := 0) rfl)))
    have u7 := (E_0.wr W5)
    have u8 := (F_bytes.other W5 (Or.inr (slot_ne (Or.inr (hw _ (List.mem_of_getElem? (i := 39) rfl))) (Or.inl (hw _ (List.mem_of_getElem? (i := 49) rfl))) (by decide) (t := (.array .byte)) (t' := .int) (by decide) (by decide))))
    have u9 := (F_end.other W5 (Or.inr (slot_ne (Or.inr (hw _ (List.mem_of_getElem? (i := 41) rfl))) (Or.inl (hw _ (List.mem_of_getElem? (i := 49) rfl))) (by decide) (t := .int) (t' := .int) (by decide) (by decide))))
    have u10 := (F_position.same W5)
    have u11 := (A_0.other W5 ne_rb_r0)
    show own_Ends p e below s _ _ _ (T5.setTop (mkF m 46 #[.val (.ref r0), .val (.long (own_acc f P i)), .second, .val (.int (Int32.ofNat (7 * i))), s4] [(.int w), (.ref rb)]))
    refine own_step (fun t k => own_ldB X5 hx hZ e5 u11 (P + i) hwi hlt (g := (mkF m 46 #[.val (.ref r0), .val (.long (own_acc f P i)), .second, .val (.int (Int32.ofNat (7 * i))), s4] [(.int w), (.ref rb)])) rfl rfl (hb hby d10_46) t k) ?_
    show own_Ends p e below s _ _ _ (T5.setTop (mkF m 47 #[.val (.ref r0), .val (.long (own_acc f P i)), .second, .val (.int (Int32.ofNat (7 * i))), s4] [(.int (f (P + i)))]))
    refine own_step (fun t k => XS.sipush X5.here hx rfl (hb hby d10_47) k) ?_
    show own_Ends p e below s _ _ _ (T5.setTop (mkF m 50 #[.val (.ref r0), .val (.long (own_acc f P i)), .second, .val (.int (Int32.ofNat (7 * i))), s4] [(.int (255 : Int32)), (.int (f (P + i)))]))
    refine own_step (fun t k => XS.iand X5.here hx rfl (hb hby d10_50) rfl k) ?_
    show own_Ends p e below s _ _ _ (T5.setTop (mkF m 51 #[.val (.ref r0), .val (.long (own_acc f P i)), .second, .val (.int (Int32.ofNat (7 * i))), s4] [(.int ((f (P + i)) &&& (255 : Int32)))]))
    refine own_step (fun t k => XS.istore X5.here hx rfl (hb hby d10_51) rfl (l' := #[.val (.ref r0), .val (.long (own_acc f P i)), .second, .val (.int (Int32.ofNat (7 * i))), .val (.int ((f (P + i)) &&& (255 : Int32)))]) (osV hs4) k) ?_
    show own_Ends p e below s _ _ _ (T5.setTop (mkF m 53 #[.val (.ref r0), .val (.long (own_acc f P i)), .second, .val (.int (Int32.ofNat (7 * i))), .val (.int ((f (P + i)) &&& (255 : Int32)))] []))
    refine own_step (fun t k => XS.iloadN X5.here hx rfl (hb hby d10_53) rfl k) ?_
    show own_Ends p e below s _ _ _ (T5.setTop (mkF m 54 #[.val (.ref r0), .val (.long (own_acc f P i)), .second, .val (.int (Int32.ofNat (7 * i))), .val (.int ((f (P + i)) &&& (255 : Int32)))] [(.int (Int32.ofNat (7 * i)))]))
    refine own_step (fun t k => XS.bipush X5.here hx rfl (hb hby d10_54) k) ?_
    show own_Ends p e below s _ _ _ (T5.setTop (mkF m 56 #[.val (.ref r0), .val (.long (own_acc f P i)), .second, .val (.int (Int32.ofNat (7 * i))), .val (.int ((f (P + i)) &&& (255 : Int32)))] [(.int (63 : Int32)), (.int (Int32.ofNat (7 * i)))]))
    by_cases hc56_12 : (Int32.ofNat (7 * i)) = (63 : Int32)
    · -- (Int32.ofNat (7 * i)) = (63 : Int32)
      refine own_step (fun t k => XS.icmpNo X5.here hx rfl (hb hby d10_56) rfl (teq hc56_12).2 k) ?_
      show own_Ends p e below s _ _ _ (T5.setTop (mkF m 59 #[.val (.ref r0), .val (.long (own_acc f P i)), .second, .val (.int (Int32.ofNat (7 * i))), .val (.int ((f (P + i)) &&& (255 : Int32)))] []))
      refine own_step (fun t k => XS.iload X5.here hx rfl (hb hby d10_59) rfl k) ?_
      show own_Ends p e below s _ _ _ (T5.setTop (mkF m 61 #[.val (.ref r0), .val (.long (own_acc f P i)), .second, .val (.int (Int32.ofNat (7 * i))), .val (.int ((f (P + i)) &&& (255 : Int32)))] [(.int ((f (P + i)) &&& (255 : Int32)))]))
      refine own_step (fun t k => XS.iconst X5.here hx rfl (hb hby d10_61) k) ?_
      show own_Ends p e below s _ _ _ (T5.setTop (mkF m 62 #[.val (.ref r0), .val (.long (own_acc f P i)), .second, .val (.int (Int32.ofNat (7 * i))), .val (.int ((f (P + i)) &&& (255 : Int32)))] [(.int (1 : Int32)), (.int ((f (P + i)) &&& (255 : Int32)))]))
      refine own_step (fun t k => XS.icmpYes X5.here hx rfl (pc0 := 62) (pc' := 68) rfl (hb hby d10_62) rfl (flt (hn9 (own_is9 hi9 hc56_12))).2.2.2 (by decide) (by decide) k) ?_
      show own_Ends p e below s _ _ _ (T5.setTop (mkF m 68 #[.val (.ref r0), .val (.long (own_acc f P i)), .second, .val (.int (Int32.ofNat (7 * i))), .val (.int ((f (P + i)) &&& (255 : Int32)))] []))
      refine own_step (fun t k => XS.lloadN X5.here hx rfl (hb hby d10_68) rfl k) ?_
      show own_Ends p e below s _ _ _ (T5.setTop (mkF m 69 #[.val (.ref r0), .val (.long (own_acc f P i)), .second, .val (.int (Int32.ofNat (7 * i))), .val (.int ((f (P + i)) &&& (255 : Int32)))] [(.long (own_acc f P i))]))
      refine own_step (fun t k => XS.iload X5.here hx rfl (hb hby d10_69) rfl k) ?_
      show own_Ends p e below s _ _ _ (T5.setTop (mkF m 71 #[.val (.ref r0), .val (.long (own_acc f P i)), .second, .val (.int (Int32.ofNat (7 * i))), .val (.int ((f (P + i)) &&& (255 : Int32)))] [(.int ((f (P + i)) &&& (255 : Int32))), (.long (own_acc f P i))]))
      refine own_step (fun t k => XS.bipush X5.here hx rfl (hb hby d10_71) k) ?_
      show own_Ends p e below s _ _ _ (T5.setTop (mkF m 73 #[.val (.ref r0), .val (.long (own_acc f P i)), .second, .val (.int (Int32.ofNat (7 * i))), .val (.int ((f (P + i)) &&& (255 : Int32)))] [(.int (127 : Int32)), (.int ((f (P + i)) &&& (255 : Int32))), (.long (own_acc f P i))]))
      refine own_step (fun t k => XS.iand X5.here hx rfl (hb hby d10_73) rfl k) ?_
      show own_Ends p e below s _ _ _ (T5.setTop (mkF m 74 #[.val (.ref r0), .val (.long (own_acc f P i)), .second, .val (.int (Int32.ofNat (7 * i))), .val (.int ((f (P + i)) &&& (255 : Int32)))] [(.int (((f (P + i)) &&& (255 : Int32)) &&& (127 : Int32))), (.long (own_acc f P i))]))
      refine own_step (fun t k => XS.i2l X5.here hx rfl (hb hby d10_74) rfl k) ?_
      show own_Ends p e below s _ _ _ (T5.setTop (mkF m 75 #[.val (.ref r0), .val (.long (own_acc f P i)), .second, .val (.int (Int32.ofNat (7 * i))), .val (.int ((f (P + i)) &&& (255 : Int32)))] [(.long ((((f (P + i)) &&& (255 : Int32)) &&& (127 : Int32)).toInt64)), (.long (own_acc f P i))]))
      refine own_step (fun t k => XS.iloadN X5.here hx rfl (hb hby d10_75) rfl k) ?_
      show own_Ends p e below s _ _ _ (T5.setTop (mkF m 76 #[.val (.ref r0), .val (.long (own_acc f P i)), .second, .val (.int (Int32.ofNat (7 * i))), .val (.int ((f (P + i)) &&& (255 : Int32)))] [(.int (Int32.ofNat (7 * i))), (.long ((((f (P + i)) &&& (255 : Int32)) &&& (127 : Int32)).toInt64)), (.long (own_acc f P i))]))
      refine own_step (fun t k => XS.lshl X5.here hx rfl (hb hby d10_76) rfl k) ?_
      show own_Ends p e below s _ _ _ (T5.setTop (mkF m 77 #[.val (.ref r0), .val (.long (own_acc f P i)), .second, .val (.int (Int32.ofNat (7 * i))), .val (.int ((f (P + i)) &&& (255 : Int32)))] [(.long (((((f (P + i)) &&& (255 : Int32)) &&& (127 : Int32)).toInt64) <<< ((Int32.ofNat (7 * i)) &&& 0x3f).toInt64)), (.long (own_acc f P i))]))
      refine own_step (fun t k => XS.lor X5.here hx rfl (hb hby d10_77) rfl k) ?_
      show own_Ends p e below s _ _ _ (T5.setTop (mkF m 78 #[.val (.ref r0), .val (.long (own_acc f P i)), .second, .val (.int (Int32.ofNat (7 * i))), .val (.int ((f (P + i)) &&& (255 : Int32)))] [(.long ((own_acc f P i) ||| (((((f (P + i)) &&& (255 : Int32)) &&& (127 : Int32)).toInt64) <<< ((Int32.ofNat (7 * i)) &&& 0x3f).toInt64)))]))
      refine own_step (fun t k => XS.lstoreN X5.here hx rfl (hb hby d10_78) rfl (l' := #[.val (.ref r0), .val (.long ((own_acc f P i) ||| (((((f (P + i)) &&& (255 : Int32)) &&& (127 : Int32)).toInt64) <<< ((Int32.ofNat (7 * i)) &&& 0x3f).toInt64))), .second, .val (.int (Int32.ofNat (7 * i))), .val (.int ((f (P + i)) &&& (255 : Int32)))]) rfl k) ?_
      show own_Ends p e below s _ _ _ (T5.setTop (mkF m 79 #[.val (.ref r0), .val (.long ((own_acc f P i) ||| (((((f (P + i)) &&& (255 : Int32)) &&& (127 : Int32)).toInt64) <<< ((Int32.ofNat (7 * i)) &&& 0x3f).toInt64))), .second, .val (.int (Int32.ofNat (7 * i))), .val (.int ((f (P + i)) &&& (255 : Int32)))] []))
      refine own_step (fun t k => XS.iload X5.here hx rfl (hb hby d10_79) rfl k) ?_
      show own_Ends p e below s _ _ _ (T5.setTop (mkF m 81 #[.val (.ref r0), .val (.long ((own_acc f P i) ||| (((((f (P + i)) &&& (255 : Int32)) &&& (127 : Int32)).toInt64) <<< ((Int32.ofNat (7 * i)) &&& 0x3f).toInt64))), .second, .val (.int (Int32.ofNat (7 * i))), .val (.int ((f (P + i)) &&& (255 : Int32)))] [(.int ((f (P + i)) &&& (255 : Int32)))]))
      refine own_step (fun t k => XS.sipush X5.here hx rfl (hb hby d10_81) k) ?_
      show own_Ends p e below s _ _ _ (T5.setTop (mkF m 84 #[.val (.ref r0), .val (.long ((own_acc f P i) ||| (((((f (P + i)) &&& (255 : Int32)) &&& (127 : Int32)).toInt64) <<< ((Int32.ofNat (7 * i)) &&& 0x3f).toInt64))), .second, .val (.int (Int32.ofNat (7 * i))), .val (.int ((f (P + i)) &&& (255 : Int32)))] [(.int (128 : Int32)), (.int ((f (P + i)) &&& (255 : Int32)))]))
      refine own_step (fun t k => XS.iand X5.here hx rfl (hb hby d10_84) rfl k) ?_
      show own_Ends p e below s _ _ _ (T5.setTop (mkF m 85 #[.val (.ref r0), .val (.long ((own_acc f P i) ||| (((((f (P + i)) &&& (255 : Int32)) &&& (127 : Int32)).toInt64) <<< ((Int32.ofNat (7 * i)) &&& 0x3f).toInt64))), .second, .val (.int (Int32.ofNat (7 * i))), .val (.int ((f (P + i)) &&& (255 : Int32)))] [(.int (((f (P + i)) &&& (255 : Int32)) &&& (128 : Int32)))]))
      refine own_step (fun t k => XS.ifNo X5.here hx rfl (hb hby d10_85) rfl ((if0 _ _).trans (teq hbit).2) k) ?_
      show own_Ends p e below s _ _ _ (T5.setTop (mkF m 88 #[.val (.ref r0), .val (.long ((own_acc f P i) ||| (((((f (P + i)) &&& (255 : Int32)) &&& (127 : Int32)).toInt64) <<< ((Int32.ofNat (7 * i)) &&& 0x3f).toInt64))), .second, .val (.int (Int32.ofNat (7 * i))), .val (.int ((f (P + i)) &&& (255 : Int32)))] []))
      refine own_step (fun t k => XS.lloadN X5.here hx rfl (hb hby d10_88) rfl k) ?_
      show own_Ends p e below s _ _ _ (T5.setTop (mkF m 89 #[.val (.ref r0), .val (.long ((own_acc f P i) ||| (((((f (P + i)) &&& (255 : Int32)) &&& (127 : Int32)).toInt64) <<< ((Int32.ofNat (7 * i)) &&& 0x3f).toInt64))), .second, .val (.int (Int32.ofNat (7 * i))), .val (.int ((f (P + i)) &&& (255 : Int32)))] [(.long ((own_acc f P i) ||| (((((f (P + i)) &&& (255 : Int32)) &&& (127 : Int32)).toInt64) <<< ((Int32.ofNat (7 * i)) &&& 0x3f).toInt64)))]))
      exact own_retL X5 hx hlk hret (hb hby d10_89) (by rw [e5]; exact ⟨(by rw [← hij]; rfl), N5, Z5, u6, u7, u8, u9, _, (by rw [← hij]; exact own_w1 (n := P + i) hwi (by omega)), u10⟩) (by decide) (by decide)
    · -- not (Int32.ofNat (7 * i)) = (63 : Int32)
      refine own_step (fun t k => XS.icmpYes X5.here hx rfl (pc0 := 56) (pc' := 68) rfl (hb hby d10_56) rfl (feq hc56_12).2 (by decide) (by decide) k) ?_
      show own_Ends p e below s _ _ _ (T5.setTop (mkF m 68 #[.val (.ref r0), .val (.long (own_acc f P i)), .second, .val (.int (Int32.ofNat (7 * i))), .val (.int ((f (P + i)) &&& (255 : Int32)))] []))
      refine own_step (fun t k => XS.lloadN X5.here hx rfl (hb hby d10_68) rfl k) ?_
      show own_Ends p e below s _ _ _ (T5.setTop (mkF m 69 #[.val (.ref r0), .val (.long (own_acc f P i)), .second, .val (.int (Int32.ofNat (7 * i))), .val (.int ((f (P + i)) &&& (255 : Int32)))] [(.long (own_acc f P i))]))
      refine own_step (fun t k => XS.iload X5.here hx rfl (hb hby d10_69) rfl k) ?_
      show own_Ends p e below s _ _ _ (T5.setTop (mkF m 71 #[.val (.ref r0), .val (.long (own_acc f P i)), .second, .val (.int (Int32.ofNat (7 * i))), .val (.int ((f (P + i)) &&& (255 : Int32)))] [(.int ((f (P + i)) &&& (255 : Int32))), (.long (own_acc f P i))]))
      refine own_step (fun t k => XS.bipush X5.here hx rfl (hb hby d10_71) k) ?_
      show own_Ends p e below s _ _ _ (T5.setTop (mkF m 73 #[.val (.ref r0), .val (.long (own_acc f P i)), .second, .val (.int (Int32.ofNat (7 * i))), .val (.int ((f (P + i)) &&& (255 : Int32)))] [(.int (127 : Int32)), (.int ((f (P + i)) &&& (255 : Int32))), (.long (own_acc f P i))]))
      refine own_step (fun t k => XS.iand X5.here hx rfl (hb hby d10_73) rfl k) ?_
      show own_Ends p e below s _ _ _ (T5.setTop (mkF m 74 #[.val (.ref r0), .val (.long (own_acc f P i)), .second, .val (.int (Int32.ofNat (7 * i))), .val (.int ((f (P + i)) &&& (255 : Int32)))] [(.int (((f (P + i)) &&& (255 : Int32)) &&& (127 : Int32))), (.long (own_acc f P i))]))
      refine own_step (fun t k => XS.i2l X5.here hx rfl (hb hby d10_74) rfl k) ?_
      show own_Ends p e below s _ _ _ (T5.setTop (mkF m 75 #[.val (.ref r0), .val (.long (own_acc f P i)), .second, .val (.int (Int32.ofNat (7 * i))), .val (.int ((f (P + i)) &&& (255 : Int32)))] [(.long ((((f (P + i)) &&& (255 : Int32)) &&& (127 : Int32)).toInt64)), (.long (own_acc f P i))]))
      refine own_step (fun t k => XS.iloadN X5.here hx rfl (hb hby d10_75) rfl k) ?_
      show own_Ends p e below s _ _ _ (T5.setTop (mkF m 76 #[.val (.ref r0), .val (.long (own_acc f P i)), .second, .val (.int (Int32.ofNat (7 * i))), .val (.int ((f (P + i)) &&& (255 : Int32)))] [(.int (Int32.ofNat (7 * i))), (.long ((((f (P + i)) &&& (255 : Int32)) &&& (127 : Int32)).toInt64)), (.long (own_acc f P i))]))
      refine own_step (fun t k => XS.lshl X5.here hx rfl (hb hby d10_76) rfl k) ?_
      show own_Ends p e below s _ _ _ (T5.setTop (mkF m 77 #[.val (.ref r0), .val (.long (own_acc f P i)), .second, .val (.int (Int32.ofNat (7 * i))), .val (.int ((f (P + i)) &&& (255 : Int32)))] [(.long (((((f (P + i)) &&& (255 : Int32)) &&& (127 : Int32)).toInt64) <<< ((Int32.ofNat (7 * i)) &&& 0x3f).toInt64)), (.long (own_acc f P i))]))
      refine own_step (fun t k => XS.lor X5.here hx rfl (hb hby d10_77) rfl k) ?_
      show own_Ends p e below s _ _ _ (T5.setTop (mkF m 78 #[.val (.ref r0), .val (.long (own_acc f P i)), .second, .val (.int (Int32.ofNat (7 * i))), .val (.int ((f (P + i)) &&& (255 : Int32)))] [(.long ((own_acc f P i) ||| (((((f (P + i)) &&& (255 : Int32)) &&& (127 : Int32)).toInt64) <<< ((Int32.ofNat (7 * i)) &&& 0x3f).toInt64)))]))
      refine own_step (fun t k => XS.lstoreN X5.here hx rfl (hb hby d10_78) rfl (l' := #[.val (.ref r0), .val (.long ((own_acc f P i) ||| (((((f (P + i)) &&& (255 : Int32)) &&& (127 : Int32)).toInt64) <<< ((Int32.ofNat (7 * i)) &&& 0x3f).toInt64))), .second, .val (.int (Int32.ofNat (7 * i))), .val (.int ((f (P + i)) &&& (255 : Int32)))]) rfl k) ?_
      show own_Ends p e below s _ _ _ (T5.setTop (mkF m 79 #[.val (.ref r0), .val (.long ((own_acc f P i) ||| (((((f (P + i)) &&& (255 : Int32)) &&& (127 : Int32)).toInt64) <<< ((Int32.ofNat (7 * i)) &&& 0x3f).toInt64))), .second, .val (.int (Int32.ofNat (7 * i))), .val (.int ((f (P + i)) &&& (255 : Int32)))] []))
      refine own_step (fun t k => XS.iload X5.here hx rfl (hb hby d10_79) rfl k) ?_
      show own_Ends p e below s _ _ _ (T5.setTop (mkF m 81 #[.val (.ref r0), .val (.long ((own_acc f P i) ||| (((((f (P + i)) &&& (255 : Int32)) &&& (127 : Int32)).toInt64) <<< ((Int32.ofNat (7 * i)) &&& 0x3f).toInt64))), .second, .val (.int (Int32.ofNat (7 * i))), .val (.int ((f (P + i)) &&& (255 : Int32)))] [(.int ((f (P + i)) &&& (255 : Int32)))]))
      refine own_step (fun t k => XS.sipush X5.here hx rfl (hb hby d10_81) k) ?_
      show own_Ends p e below s _ _ _ (T5.setTop (mkF m 84 #[.val (.ref r0), .val (.long ((own_acc f P i) ||| (((((f (P + i)) &&& (255 : Int32)) &&& (127 : Int32)).toInt64) <<< ((Int32.ofNat (7 * i)) &&& 0x3f).toInt64))), .second, .val (.int (Int32.ofNat (7 * i))), .val (.int ((f (P + i)) &&& (255 : Int32)))] [(.int (128 : Int32)), (.int ((f (P + i)) &&& (255 : Int32)))]))
      refine own_step (fun t k => XS.iand X5.here hx rfl (hb hby d10_84) rfl k) ?_
      show own_Ends p e below s _ _ _ (T5.setTop (mkF m 85 #[.val (.ref r0), .val (.long ((own_acc f P i) ||| (((((f (P + i)) &&& (255 : Int32)) &&& (127 : Int32)).toInt64) <<< ((Int32.ofNat (7 * i)) &&& 0x3f).toInt64))), .second, .val (.int (Int32.ofNat (7 * i))), .val (.int ((f (P + i)) &&& (255 : Int32)))] [(.int (((f (P + i)) &&& (255 : Int32)) &&& (128 : Int32)))]))
      refine own_step (fun t k => XS.ifNo X5.here hx rfl (hb hby d10_85) rfl ((if0 _ _).trans (teq hbit).2) k) ?_
      show own_Ends p e below s _ _ _ (T5.setTop (mkF m 88 #[.val (.ref r0), .val (.long ((own_acc f P i) ||| (((((f (P + i)) &&& (255 : Int32)) &&& (127 : Int32)).toInt64) <<< ((Int32.ofNat (7 * i)) &&& 0x3f).toInt64))), .second, .val (.int (Int32.ofNat (7 * i))), .val (.int ((f (P + i)) &&& (255 : Int32)))] []))
      refine own_step (fun t k => XS.lloadN X5.here hx rfl (hb hby d10_88) rfl k) ?_
      show own_Ends p e below s _ _ _ (T5.setTop (mkF m 89 #[.val (.ref r0), .val (.long ((own_acc f P i) ||| (((((f (P + i)) &&& (255 : Int32)) &&& (127 : Int32)).toInt64) <<< ((Int32.ofNat (7 * i)) &&& 0x3f).toInt64))), .second, .val (.int (Int32.ofNat (7 * i))), .val (.int ((f (P + i)) &&& (255 : Int32)))] [(.long ((own_acc f P i) ||| (((((f (P + i)) &&& (255 : Int32)) &&& (127 : Int32)).toInt64) <<< ((Int32.ofNat (7 * i)) &&& 0x3f).toInt64)))]))
      exact own_retL X5 hx hlk hret (hb hby d10_89) (by rw [e5]; exact ⟨(by rw [← hij]; rfl), N5, Z5, u6, u7, u8, u9, _, (by rw [← hij]; exact own_w1 (n := P + i) hwi (by omega)), u10⟩) (by decide) (by decide)
  | succ k ih =>
    intro i hik T locs hh w s4 hs4 hwi X0 e0 N0 Z0 K_0 E_0 F_bytes F_end F_position A_0
    have hi9 : i ≤ 9 := by omega
    have hlt : P + i < nb := by omega
    have hne : ¬ w = en := fun q => hend i (by omega) (hwi.symm.trans (congrArg Int32.toInt q))
    have hbit : ¬ (((f (P + i)) &&& (255 : Int32)) &&& (128 : Int32)) = (0 : Int32) := hmore i (by omega)
    show own_Ends p e below s _ _ _ (T.setTop (mkF m 4 #[.val (.ref r0), .val (.long (own_acc f P i)), .second, .val (.int (Int32.ofNat (7 * i))), s4] []))
    refine own_step (fun t k => XS.iloadN X0.here hx rfl (hb hby d10_4) rfl k) ?_
    show own_Ends p e below s _ _ _ (T.setTop (mkF m 5 #[.val (.ref r0), .val (.long (own_acc f P i)), .second, .val (.int (Int32.ofNat (7 * i))), s4] [(.int (Int32.ofNat (7 * i)))]))
    refine own_step (fun t k => XS.bipush X0.here hx rfl (hb hby d10_5) k) ?_
    show own_Ends p e below s _ _ _ (T.setTop (mkF m 7 #[.val (.ref r0), .val (.long (own_acc f P i)), .second, .val (.int (Int32.ofNat (7 * i))), s4] [(.int (64 : Int32)), (.int (Int32.ofNat (7 * i)))]))
    refine own_step (fun t k => XS.icmpNo X0.here hx rfl (hb hby d10_7) rfl (tlt (own_sh64 hi9)).2.1 k) ?_
    show own_Ends p e below s _ _ _ (T.setTop (mkF m 10 #[.val (.ref r0), .val (.long (own_acc f P i)), .second, .val (.int (Int32.ofNat (7 * i))), s4] []))
    refine own_step (fun t k => XS.aloadN X0.here hx rfl (hb hby d10_10) rfl rfl k) ?_
    show own_Ends p e below s _ _ _ (T.setTop (mkF m 11 #[.val (.ref r0), .val (.long (own_acc f P i)), .second, .val (.int (Int32.ofNat (7 * i))), s4] [(.ref r0)]))
    obtain ⟨T1, X1, e1, st1⟩ := getF X0 hx hZ hown (host := "") (Or.inl (hw _ (List.mem_of_getElem? (i := 48) rfl))) Via.refl e0 F_position (g := (mkF m 11 #[.val (.ref r0), .val (.long (own_acc f P i)), .second, .val (.int (Int32.ofNat (7 * i))), s4] [(.ref r0)])) rfl rfl (hb hby d10_11)
    refine own_step st1 ?_
    show own_Ends p e below s _ _ _ (T1.setTop (mkF m 14 #[.val (.ref r0), .val (.long (own_acc f P i)), .second, .val (.int (Int32.ofNat (7 * i))), s4] [(.int w)]))
    refine own_step (fun t k => XS.aloadN X1.here hx rfl (hb hby d10_14) rfl rfl k) ?_
    show own_Ends p e below s _ _ _ (T1.setTop (mkF m 15 #[.val (.ref r0), .val (.long (own_acc f P i)), .second, .val (.int (Int32.ofNat (7 * i))), s4] [(.ref r0), (.int w)]))
    obtain ⟨T2, X2, e2, st2⟩ := getF X1 hx hZ hown (host := "") (Or.inl (hw _ (List.mem_of_getElem? (i := 40) rfl))) Via.refl e1 F_end (g := (mkF m 15 #[.val (.ref r0), .val (.long (own_acc f P i)), .second, .val (.int (Int32.ofNat (7 * i))), s4] [(.ref r0), (.int w)])) rfl rfl (hb hby d10_15)
    refine own_step st2 ?_
    show own_Ends p e below s _ _ _ (T2.setTop (mkF m 18 #[.val (.ref r0), .val (.long (own_acc f P i)), .second, .val (.int (Int32.ofNat (7 * i))), s4] [(.int en), (.int w)]))
    refine own_step (fun t k => XS.icmpYes X2.here hx rfl (pc0 := 18) (pc' := 31) rfl (hb hby d10_18) rfl (feq hne).2 (by decide) (by decide) k) ?_
    show own_Ends p e below s _ _ _ (T2.setTop (mkF m 31 #[.val (.ref r0), .val (.long (own_acc f P i)), .second, .val (.int (Int32.ofNat (7 * i))), s4] []))
    refine own_step (fun t k => XS.aloadN X2.here hx rfl (hb hby d10_31) rfl rfl k) ?_
    show own_Ends p e below s _ _ _ (T2.setTop (mkF m 32 #[.val (.ref r0), .val (.long (own_acc f P i)), .second, .val (.int (Int32.ofNat (7 * i))), s4] [(.ref r0)]))
    obtain ⟨T3, X3, e3, st3⟩ := getF X2 hx hZ hown (host := "") (Or.inl (hw _ (List.mem_of_getElem? (i := 38) rfl))) Via.refl e2 F_bytes (g := (mkF m 32 #[.val (.ref r0), .val (.long (own_acc f P i)), .second, .val (.int (Int32.ofNat (7 * i))), s4] [(.ref r0)])) rfl rfl (hb hby d10_32)
    refine own_step st3 ?_
    show own_Ends p e below s _ _ _ (T3.setTop (mkF m 35 #[.val (.ref r0), .val (.long (own_acc f P i)), .second, .val (.int (Int32.ofNat (7 * i))), s4] [(.ref rb)]))
    refine own_step (fun t k => XS.aloadN X3.here hx rfl (hb hby d10_35) rfl rfl k) ?_
    show own_Ends p e below s _ _ _ (T3.setTop (mkF m 36 #[.val (.ref r0), .val (.long (own_acc f P i)), .second, .val (.int (Int32.ofNat (7 * i))), s4] [(.ref r0), (.ref rb)]))
    refine own_step (fun t k => XS.dup X3.here hx rfl (hb hby d10_36) rfl rfl k) ?_
    show own_Ends p e below s _ _ _ (T3.setTop (mkF m 37 #[.val (.ref r0), .val (.long (own_acc f P i)), .second, .val (.int (Int32.ofNat (7 * i))), s4] [(.ref r0), (.ref r0), (.ref rb)]))
    obtain ⟨T4, X4, e4, st4⟩ := getF X3 hx hZ hown (host := "") (Or.inl (hw _ (List.mem_of_getElem? (i := 48) rfl))) Via.refl e3 F_position (g := (mkF m 37 #[.val (.ref r0), .val (.long (own_acc f P i)), .second, .val (.int (Int32.ofNat (7 * i))), s4] [(.ref r0), (.ref r0), (.ref rb)])) rfl rfl (hb hby d10_37)
    refine own_step st4 ?_
    show own_Ends p e below s _ _ _ (T4.setTop (mkF m 40 #[.val (.ref r0), .val (.long (own_acc f P i)), .second, .val (.int (Int32.ofNat (7 * i))), s4] [(.int w), (.ref r0), (.ref rb)]))
    refine own_step (fun t k => XS.dupX1 X4.here hx rfl (hb hby d10_40) rfl rfl rfl k) ?_
    show own_Ends p e below s _ _ _ (T4.setTop (mkF m 41 #[.val (.ref r0), .val (.long (own_acc f P i)), .second, .val (.int (Int32.ofNat (7 * i))), s4] [(.int w), (.ref r0), (.int w), (.ref rb)]))
    refine own_step (fun t k => XS.iconst X4.here hx rfl (hb hby d10_41) k) ?_
    show own_Ends p e below s _ _ _ (T4.setTop (mkF m 42 #[.val (.ref r0), .val (.long (own_acc f P i)), .second, .val (.int (Int32.ofNat (7 * i))), s4] [(.int (1 : Int32)), (.int w), (.ref r0), (.int w), (.ref rb)]))
    refine own_step (fun t k => XS.iadd X4.here hx rfl (hb hby d10_42) rfl k) ?_
    show own_Ends p e below s _ _ _ (T4.setTop (mkF m 43 #[.val (.ref r0), .val (.long (own_acc f P i)), .second, .val (.int (Int32.ofNat (7 * i))), s4] [(.int (w + (1 : Int32))), (.ref r0), (.int w), (.ref rb)]))
    obtain ⟨T5, h5, X5, e5, W5, st5⟩ := putF X4 hx hZ hown (host := "") (Or.inl (hw _ (List.mem_of_getElem? (i := 48) rfl))) Via.refl e4 F_position E_0 (Or.inl (hw _ (List.mem_of_getElem? (i := 49) rfl))) (hw _ (List.mem_of_getElem? (i := 32) rfl)) (ty := .int) (by decide) rfl rfl (g := (mkF m 43 #[.val (.ref r0), .val (.long (own_acc f P i)), .second, .val (.int (Int32.ofNat (7 * i))), s4] [(.int (w + (1 : Int32))), (.ref r0), (.int w), (.ref rb)])) rfl rfl (hb hby d10_43)
    refine own_step st5 ?_
    have N5 := Fr.snoc X5 N0 gn_r0
    have Z5 : n0 ≤ h5.size := by rw [W5.size]; exact Z0
    have u6 := (K_0.wr W5 (Or.inl (List.mem_of_getElem? (i := 0) rfl)))
    have u7 := (E_0.wr W5)
    have u8 := (F_bytes.other W5 (Or.inr (slot_ne (Or.inr (hw _ (List.mem_of_getElem? (i := 39) rfl))) (Or.inl (hw _ (List.mem_of_getElem? (i := 49) rfl))) (by decide) (t := (.array .byte)) (t' := .int) (by decide) (by decide))))
    have u9 := (F_end.other W5 (Or.inr (slot_ne (Or.inr (hw _ (List.mem_of_getElem? (i := 41) rfl))) (Or.inl (hw _ (List.mem_of_getElem? (i := 49) rfl))) (by decide) (t := .int) (t' := .int) (by decide) (by decide))))
    have u10 := (F_position.same W5)
    have u11 := (A_0.other W5 ne_rb_r0)
    show own_Ends p e below s _ _ _ (T5.setTop (mkF m 46 #[.val (.ref r0), .val (.long (own_acc f P i)), .second, .val (.int (Int32.ofNat (7 * i))), s4] [(.int w), (.ref rb)]))
    refine own_step (fun t k => own_ldB X5 hx hZ e5 u11 (P + i) hwi hlt (g := (mkF m 46 #[.val (.ref r0), .val (.long (own_acc f P i)), .second, .val (.int (Int32.ofNat (7 * i))), s4] [(.int w), (.ref rb)])) rfl rfl (hb hby d10_46) t k) ?_
    show own_Ends p e below s _ _ _ (T5.setTop (mkF m 47 #[.val (.ref r0), .val (.long (own_acc f P i)), .second, .val (.int (Int32.ofNat (7 * i))), s4] [(.int (f (P + i)))]))
    refine own_step (fun t k => XS.sipush X5.here hx rfl (hb hby d10_47) k) ?_
    show own_Ends p e below s _ _ _ (T5.setTop (mkF m 50 #[.val (.ref r0), .val (.long (own_acc f P i)), .second, .val (.int (Int32.ofNat (7 * i))), s4] [(.int (255 : Int32)), (.int (f (P + i)))]))
    refine own_step (fun t k => XS.iand X5.here hx rfl (hb hby d10_50) rfl k) ?_
    show own_Ends p e below s _ _ _ (T5.setTop (mkF m 51 #[.val (.ref r0), .val (.long (own_acc f P i)), .second, .val (.int (Int32.ofNat (7 * i))), s4] [(.int ((f (P + i)) &&& (255 : Int32)))]))
    refine own_step (fun t k => XS.istore X5.here hx rfl (hb hby d10_51) rfl (l' := #[.val (.ref r0), .val (.long (own_acc f P i)), .second, .val (.int (Int32.ofNat (7 * i))), .val (.int ((f (P + i)) &&& (255 : Int32)))]) (osV hs4) k) ?_
    show own_Ends p e below s _ _ _ (T5.setTop (mkF m 53 #[.val (.ref r0), .val (.long (own_acc f P i)), .second, .val (.int (Int32.ofNat (7 * i))), .val (.int ((f (P + i)) &&& (255 : Int32)))] []))
    refine own_step (fun t k => XS.iloadN X5.here hx rfl (hb hby d10_53) rfl k) ?_
    show own_Ends p e below s _ _ _ (T5.setTop (mkF m 54 #[.val (.ref r0), .val (.long (own_acc f P i)), .second, .val (.int (Int32.ofNat (7 * i))), .val (.int ((f (P + i)) &&& (255 : Int32)))] [(.int (Int32.ofNat (7 * i)))]))
    refine own_step (fun t k => XS.bipush X5.here hx rfl (hb hby d10_54) k) ?_
    show own_Ends p e below s _ _ _ (T5.setTop (mkF m 56 #[.val (.ref r0), .val (.long (own_acc f P i)), .second, .val (.int (Int32.ofNat (7 * i))), .val (.int ((f (P + i)) &&& (255 : Int32)))] [(.int (63 : Int32)), (.int (Int32.ofNat (7 * i)))]))
    refine own_step (fun t k => XS.icmpYes X5.here hx rfl (pc0 := 56) (pc' := 68) rfl (hb hby d10_56) rfl (feq (fun q => absurd (own_is9 hi9 q) (by omega))).2 (by decide) (by decide) k) ?_
    show own_Ends p e below s _ _ _ (T5.setTop (mkF m 68 #[.val (.ref r0), .val (.long (own_acc f P i)), .second, .val (.int (Int32.ofNat (7 * i))), .val (.int ((f (P + i)) &&& (255 : Int32)))] []))
    refine own_step (fun t k => XS.lloadN X5.here hx rfl (hb hby d10_68) rfl k) ?_
    show own_Ends p e below s _ _ _ (T5.setTop (mkF m 69 #[.val (.ref r0), .val (.long (own_acc f P i)), .second, .val (.int (Int32.ofNat (7 * i))), .val (.int ((f (P + i)) &&& (255 : Int32)))] [(.long (own_acc f P i))]))
    refine own_step (fun t k => XS.iload X5.here hx rfl (hb hby d10_69) rfl k) ?_
    show own_Ends p e below s _ _ _ (T5.setTop (mkF m 71 #[.val (.ref r0), .val (.long (own_acc f P i)), .second, .val (.int (Int32.ofNat (7 * i))), .val (.int ((f (P + i)) &&& (255 : Int32)))] [(.int ((f (P + i)) &&& (255 : Int32))), (.long (own_acc f P i))]))
    refine own_step (fun t k => XS.bipush X5.here hx rfl (hb hby d10_71) k) ?_
    show own_Ends p e below s _ _ _ (T5.setTop (mkF m 73 #[.val (.ref r0), .val (.long (own_acc f P i)), .second, .val (.int (Int32.ofNat (7 * i))), .val (.int ((f (P + i)) &&& (255 : Int32)))] [(.int (127 : Int32)), (.int ((f (P + i)) &&& (255 : Int32))), (.long (own_acc f P i))]))
    refine own_step (fun t k => XS.iand X5.here hx rfl (hb hby d10_73) rfl k) ?_
    show own_Ends p e below s _ _ _ (T5.setTop (mkF m 74 #[.val (.ref r0), .val (.long (own_acc f P i)), .second, .val (.int (Int32.ofNat (7 * i))), .val (.int ((f (P + i)) &&& (255 : Int32)))] [(.int (((f (P + i)) &&& (255 : Int32)) &&& (127 : Int32))), (.long (own_acc f P i))]))
    refine own_step (fun t k => XS.i2l X5.here hx rfl (hb hby d10_74) rfl k) ?_
    show own_Ends p e below s _ _ _ (T5.setTop (mkF m 75 #[.val (.ref r0), .val (.long (own_acc f P i)), .second, .val (.int (Int32.ofNat (7 * i))), .val (.int ((f (P + i)) &&& (255 : Int32)))] [(.long ((((f (P + i)) &&& (255 : Int32)) &&& (127 : Int32)).toInt64)), (.long (own_acc f P i))]))
    refine own_step (fun t k => XS.iloadN X5.here hx rfl (hb hby d10_75) rfl k) ?_
    show own_Ends p e below s _ _ _ (T5.setTop (mkF m 76 #[.val (.ref r0), .val (.long (own_acc f P i)), .second, .val (.int (Int32.ofNat (7 * i))), .val (.int ((f (P + i)) &&& (255 : Int32)))] [(.int (Int32.ofNat (7 * i))), (.long ((((f (P + i)) &&& (255 : Int32)) &&& (127 : Int32)).toInt64)), (.long (own_acc f P i))]))
    refine own_step (fun t k => XS.lshl X5.here hx rfl (hb hby d10_76) rfl k) ?_
    show own_Ends p e below s _ _ _ (T5.setTop (mkF m 77 #[.val (.ref r0), .val (.long (own_acc f P i)), .second, .val (.int (Int32.ofNat (7 * i))), .val (.int ((f (P + i)) &&& (255 : Int32)))] [(.long (((((f (P + i)) &&& (255 : Int32)) &&& (127 : Int32)).toInt64) <<< ((Int32.ofNat (7 * i)) &&& 0x3f).toInt64)), (.long (own_acc f P i))]))
    refine own_step (fun t k => XS.lor X5.here hx rfl (hb hby d10_77) rfl k) ?_
    show own_Ends p e below s _ _ _ (T5.setTop (mkF m 78 #[.val (.ref r0), .val (.long (own_acc f P i)), .second, .val (.int (Int32.ofNat (7 * i))), .val (.int ((f (P + i)) &&& (255 : Int32)))] [(.long ((own_acc f P i) ||| (((((f (P + i)) &&& (255 : Int32)) &&& (127 : Int32)).toInt64) <<< ((Int32.ofNat (7 * i)) &&& 0x3f).toInt64)))]))
    refine own_step (fun t k => XS.lstoreN X5.here hx rfl (hb hby d10_78) rfl (l' := #[.val (.ref r0), .val (.long ((own_acc f P i) ||| (((((f (P + i)) &&& (255 : Int32)) &&& (127 : Int32)).toInt64) <<< ((Int32.ofNat (7 * i)) &&& 0x3f).toInt64))), .second, .val (.int (Int32.ofNat (7 * i))), .val (.int ((f (P + i)) &&& (255 : Int32)))]) rfl k) ?_
    show own_Ends p e below s _ _ _ (T5.setTop (mkF m 79 #[.val (.ref r0), .val (.long ((own_acc f P i) ||| (((((f (P + i)) &&& (255 : Int32)) &&& (127 : Int32)).toInt64) <<< ((Int32.ofNat (7 * i)) &&& 0x3f).toInt64))), .second, .val (.int (Int32.ofNat (7 * i))), .val (.int ((f (P + i)) &&& (255 : Int32)))] []))
    refine own_step (fun t k => XS.iload X5.here hx rfl (hb hby d10_79) rfl k) ?_
    show own_Ends p e below s _ _ _ (T5.setTop (mkF m 81 #[.val (.ref r0), .val (.long ((own_acc f P i) ||| (((((f (P + i)) &&& (255 : Int32)) &&& (127 : Int32)).toInt64) <<< ((Int32.ofNat (7 * i)) &&& 0x3f).toInt64))), .second, .val (.int (Int32.ofNat (7 * i))), .val (.int ((f (P + i)) &&& (255 : Int32)))] [(.int ((f (P + i)) &&& (255 : Int32)))]))
    refine own_step (fun t k => XS.sipush X5.here hx rfl (hb hby d10_81) k) ?_
    show own_Ends p e below s _ _ _ (T5.setTop (mkF m 84 #[.val (.ref r0), .val (.long ((own_acc f P i) ||| (((((f (P + i)) &&& (255 : Int32)) &&& (127 : Int32)).toInt64) <<< ((Int32.ofNat (7 * i)) &&& 0x3f).toInt64))), .second, .val (.int (Int32.ofNat (7 * i))), .val (.int ((f (P + i)) &&& (255 : Int32)))] [(.int (128 : Int32)), (.int ((f (P + i)) &&& (255 : Int32)))]))
    refine own_step (fun t k => XS.iand X5.here hx rfl (hb hby d10_84) rfl k) ?_
    show own_Ends p e below s _ _ _ (T5.setTop (mkF m 85 #[.val (.ref r0), .val (.long ((own_acc f P i) ||| (((((f (P + i)) &&& (255 : Int32)) &&& (127 : Int32)).toInt64) <<< ((Int32.ofNat (7 * i)) &&& 0x3f).toInt64))), .second, .val (.int (Int32.ofNat (7 * i))), .val (.int ((f (P + i)) &&& (255 : Int32)))] [(.int (((f (P + i)) &&& (255 : Int32)) &&& (128 : Int32)))]))
    refine own_step (fun t k => XS.ifYes X5.here hx rfl (pc0 := 85) (pc' := 90) rfl (hb hby d10_85) rfl ((if0 _ _).trans (feq hbit).2) (by decide) (by decide) k) ?_
    show own_Ends p e below s _ _ _ (T5.setTop (mkF m 90 #[.val (.ref r0), .val (.long ((own_acc f P i) ||| (((((f (P + i)) &&& (255 : Int32)) &&& (127 : Int32)).toInt64) <<< ((Int32.ofNat (7 * i)) &&& 0x3f).toInt64))), .second, .val (.int (Int32.ofNat (7 * i))), .val (.int ((f (P + i)) &&& (255 : Int32)))] []))
    refine own_step (fun t k => XS.iinc X5.here hx rfl (hb hby d10_90) rfl (l' := #[.val (.ref r0), .val (.long ((own_acc f P i) ||| (((((f (P + i)) &&& (255 : Int32)) &&& (127 : Int32)).toInt64) <<< ((Int32.ofNat (7 * i)) &&& 0x3f).toInt64))), .second, .val (.int ((Int32.ofNat (7 * i)) + (7 : Int32))), .val (.int ((f (P + i)) &&& (255 : Int32)))]) rfl k) ?_
    show own_Ends p e below s _ _ _ (T5.setTop (mkF m 93 #[.val (.ref r0), .val (.long ((own_acc f P i) ||| (((((f (P + i)) &&& (255 : Int32)) &&& (127 : Int32)).toInt64) <<< ((Int32.ofNat (7 * i)) &&& 0x3f).toInt64))), .second, .val (.int ((Int32.ofNat (7 * i)) + (7 : Int32))), .val (.int ((f (P + i)) &&& (255 : Int32)))] []))
    refine own_step (fun t k => XS.goto X5.here hx rfl (pc0 := 93) (pc' := 4) rfl (hb hby d10_93) (by decide) (by decide) k) ?_
    show own_Ends p e below s _ _ _ (T5.setTop (mkF m 4 #[.val (.ref r0), .val (.long ((own_acc f P i) ||| (((((f (P + i)) &&& (255 : Int32)) &&& (127 : Int32)).toInt64) <<< ((Int32.ofNat (7 * i)) &&& 0x3f).toInt64))), .second, .val (.int ((Int32.ofNat (7 * i)) + (7 : Int32))), .val (.int ((f (P + i)) &&& (255 : Int32)))] []))
    rw [own_shS hi9]
    exact ih (i + 1) (by omega) _ _ _ _ _ (One.val rfl) (own_w1 (n := P + i) hwi (by omega)) X5 e5 N5 Z5 u6 u7 u8 u9 u10 u11
set_option maxRecDepth 65536 in
set_option maxHeartbeats 40000000 in
theorem rm10 (l : Launch) (Z : State) (a0 : Array Value) (hw : ∀ d ∈ tables_1, d.before a0 Z = true) (ws : List Jvm.Cond) (r0 : Addr) (rb : Addr) (en ps : Int32) (nb : Nat) (f : Nat → Int32) (P j : Nat) (h0 : Heap) (n0 : Nat) (Z0 : n0 ≤ h0.size) (gn_r0 : n0 ≤ r0) (E_0 : Exa Z h0 r0 "com/example/weftline/weftline/runner/CompactWire$Body") (F_bytes : Fld Z h0 r0 "com/example/weftline/weftline/runner/CompactWire$Body" "bytes" "[B" (.ref rb)) (F_end : Fld Z h0 r0 "com/example/weftline/weftline/runner/CompactWire$Body" "end" "I" (.int en)) (F_position : Fld Z h0 r0 "com/example/weftline/weftline/runner/CompactWire$Body" "position" "I" (.int ps)) (A_0 : own_AI Z h0 rb .byte nb f) (ne_rb_r0 : rb ≠ r0) (hP : ps.toInt = ((P + 0 : Nat) : Int)) (hj : j ≤ 9) (hlen : P + j < nb) (hnb : nb ≤ 900) (hmore : ∀ i, i < j → ¬ (((f (P + i)) &&& (255 : Int32)) &&& (128 : Int32)) = (0 : Int32)) (hlast : (((f (P + j)) &&& (255 : Int32)) &&& (128 : Int32)) = (0 : Int32)) (hnine : j = 9 → ¬ ((1 : Int32) < ((f (P + 9)) &&& (255 : Int32)))) (hend : ∀ i, i ≤ j → ((P + i : Nat) : Int) ≠ en.toInt) :
    MetFree l (⟨"com/example/weftline/weftline/runner/CompactWire$Body", "varint", "()J"⟩ : MethodName) (head1 (Jvm.Cond.code (⟨"com/example/weftline/weftline/runner/CompactWire$Body", "varint", "()J"⟩ : MethodName) prog_30_method_3_code 5 (some .long) :: ws) ({ frames := 0, cells := 0, slots := 0, locals := 0 } : Room)) (fun a U => a = #[(.ref r0)] ∧ Z.Warmed39 U.vm ∧ U.heap = h0) (fun _ _ _ _ _ => True) (fun _ U o U' => ∃ v L, o = .returned v ∧ (Q10 Z r0 rb en f P j h0 n0) v U'.heap L ∧ FrameEnd U o U' L ({ frames := 0, cells := 0, slots := 0, locals := 0 } : Room).cells ({ frames := 0, cells := 0, slots := 0, locals := 0 } : Room).slots) := by
  refine MetFree.of_bodySF (plainFor_of_name pn_10) hisR ?_
  intro p e s m args below meth c s₁ Bd hml0 hP hK
  obtain ⟨rfl, hZ, hh⟩ := hP
  have hx := Bd.exec
  have hby := Bd.bytes
  have hret := Bd.returns
  have hlk := BodyLoose.notSynchronized Bd
  have hml : c.maxLocals = 5 := hml0
  have hown : s.vm.findClass "com/example/weftline/weftline/runner/CompactWire$Body" = some m.cls := findClass_of_methodNamed Bd.named
  have hnm := (name_of_methodNamed Bd.named Bd.method).1
  have X0 : Stand p l e ({ frames := 0, cells := 0, slots := 0, locals := 0 } : Room) s m #[(.ref r0)] below meth c s₁ [] 0 0 := Stand.of_body Bd
  have e0 : s₁.heap = h0 := by rw [← hh, Bd.state]; rfl
  have N0 := Fr.nil n0
  show own_Ends p e below s ({ frames := 0, cells := 0, slots := 0, locals := 0 } : Room).cells ({ frames := 0, cells := 0, slots := 0, locals := 0 } : Room).slots (Q10 Z r0 rb en f P j h0 n0) (s₁.setTop (entryFrame m #[(.ref r0)] 5))
  refine own_cast (ef_10 m r0) ?_
  show own_Ends p e below s _ _ _ (s₁.setTop (mkF m 0 #[.val (.ref r0), .unset, .unset, .unset, .unset] []))
  refine own_step (fun t k => XS.lconst X0.here hx rfl (hb hby d10_0) k) ?_
  show own_Ends p e below s _ _ _ (s₁.setTop (mkF m 1 #[.val (.ref r0), .unset, .unset, .unset, .unset] [(.long (0 : Int64))]))
  refine own_step (fun t k => XS.lstoreN X0.here hx rfl (hb hby d10_1) rfl (l' := #[.val (.ref r0), .val (.long (0 : Int64)), .second, .unset, .unset]) rfl k) ?_
  show own_Ends p e below s _ _ _ (s₁.setTop (mkF m 2 #[.val (.ref r0), .val (.long (0 : Int64)), .second, .unset, .unset] []))
  refine own_step (fun t k => XS.iconst X0.here hx rfl (hb hby d10_2) k) ?_
  show own_Ends p e below s _ _ _ (s₁.setTop (mkF m 3 #[.val (.ref r0), .val (.long (0 : Int64)), .second, .unset, .unset] [(.int (0 : Int32))]))
  refine own_step (fun t k => XS.istoreN X0.here hx rfl (hb hby d10_3) rfl (l' := #[.val (.ref r0), .val (.long (0 : Int64)), .second, .val (.int (0 : Int32)), .unset]) rfl k) ?_
  show own_Ends p e below s _ _ _ (s₁.setTop (mkF m 4 #[.val (.ref r0), .val (.long (0 : Int64)), .second, .val (.int (0 : Int32)), .unset] []))
  exact loopV r0 rb en nb f P j hx hZ hw hby hml hown hret hlk gn_r0 ne_rb_r0 hj hlen hnb hmore hlast hnine hend j 0 (by omega) _ _ _ ps .unset One.u hP X0 e0 N0 Z0 (Keep.refl h0 [r0]) E_0 F_bytes F_end F_position A_0
theorem d1_0 : decode method_2_code 0 = .ok (.iload_n 0, 1) := by decide +kernel
theorem d1_1 : decode method_2_code 1 = .ok (.iload_n 1, 1) := by decide +kernel
theorem d1_2 : decode method_2_code 2 = .ok (.iconst 1, 1) := by decide +kernel
theorem d1_3 : decode method_2_code 3 = .ok (.iadd, 1) := by decide +kernel
theorem d1_4 : decode method_2_code 4 = .ok (.if_icmp .le 9, 3) := by decide +kernel
theorem d1_7 : decode method_2_code 7 = .ok (.sipush 128, 3) := by decide +kernel
theorem d1_10 : decode method_2_code 10 = .ok (.goto 4, 3) := by decide +kernel
theorem d1_13 : decode method_2_code 13 = .ok (.iconst 0, 1) := by decide +kernel
theorem d1_14 : decode method_2_code 14 = .ok (.i2b, 1) := by decide +kernel
theorem d1_15 : decode method_2_code 15 = .ok (.ireturn, 1) := by decide +kernel
theorem pn_1 : plainName "com/example/weftline/weftline/runner/BodyLengthPinLaw" = true := by first | (simp [plainName, overriddenIn]; done) | decide +kernel
theorem ef_1 (m : MethodId) (p0 : Int32) (p1 : Int32) : entryFrame m #[(.int p0), (.int p1)] 2 = mkF m 0 #[.val (.int p0), .val (.int p1)] [] := by first | (simp [entryFrame, mkF, argsToLocals, Value.category]; done) | rfl
def f1_14 (p0 : Int32) (p1 : Int32) : Int32 := (((128 : Int32).toInt8.toInt32)).toInt8.toInt32
def f1_14b (p0 : Int32) (p1 : Int32) : Int32 := (((0 : Int32).toInt8.toInt32)).toInt8.toInt32
def f1_0 (p0 : Int32) (p1 : Int32) : Int32 := (if (p1 + (1 : Int32)) < p0 then f1_14 p0 p1 else f1_14b p0 p1)
def Q1 (Z : State) (p0 : Int32) (p1 : Int32) (h0 : Heap) (n0 : Nat) (v : Option Value) (h : Heap) (L : List Loc) : Prop := v = some (.int (f1_0 p0 p1)) ∧ Fr n0 L ∧ h = h0
set_option maxRecDepth 65536 in
set_option maxHeartbeats 40000000 in
theorem rm1 (l : Launch) (Z : State) (a0 : Array Value) (hw : ∀ d ∈ tables_1, d.before a0 Z = true) (ws : List Jvm.Cond) (p0 : Int32) (p1 : Int32) (h0 : Heap) (n0 : Nat) :
    MetFree l (⟨"com/example/weftline/weftline/runner/BodyLengthPinLaw", "cont", "(II)B"⟩ : MethodName) (head1 (Jvm.Cond.code (⟨"com/example/weftline/weftline/runner/BodyLengthPinLaw", "cont", "(II)B"⟩ : MethodName) method_2_code 2 (some .byte) :: ws) ({ frames := 0, cells := 0, slots := 0, locals := 0 } : Room)) (fun a U => a = #[(.int p0), (.int p1)] ∧ Z.Warmed39 U.vm ∧ U.heap = h0) (fun _ _ _ _ _ => True) (fun _ U o U' => ∃ v L, o = .returned v ∧ (Q1 Z p0 p1 h0 n0) v U'.heap L ∧ FrameEnd U o U' L ({ frames := 0, cells := 0, slots := 0, locals := 0 } : Room).cells ({ frames := 0, cells := 0, slots := 0, locals := 0 } : Room).slots) := by
  refine MetFree.of_bodySF (plainFor_of_name pn_1) hisR ?_
  intro p e s m args below meth c s₁ Bd hml0 hP hK
  obtain ⟨rfl, hZ, hh⟩ := hP
  have hx := Bd.exec
  have hby := Bd.bytes
  have hret := Bd.returns
  have hlk := BodyLoose.notSynchronized Bd
  have hml : c.maxLocals = 2 := hml0
  have hown : s.vm.findClass "com/example/weftline/weftline/runner/BodyLengthPinLaw" = some m.cls := findClass_of_methodNamed Bd.named
  have hnm := (name_of_methodNamed Bd.named Bd.method).1
  have X0 : Stand p l e ({ frames := 0, cells := 0, slots := 0, locals := 0 } : Room) s m #[(.int p0), (.int p1)] below meth c s₁ [] 0 0 := Stand.of_body Bd
  have e0 : s₁.heap = h0 := by rw [← hh, Bd.state]; rfl
  have N0 := Fr.nil n0
  show own_Ends p e below s ({ frames := 0, cells := 0, slots := 0, locals := 0 } : Room).cells ({ frames := 0, cells := 0, slots := 0, locals := 0 } : Room).slots (Q1 Z p0 p1 h0 n0) (s₁.setTop (entryFrame m #[(.int p0), (.int p1)] 2))
  refine own_cast (ef_1 m p0 p1) ?_
  have B1_14 (hF : f1_0 p0 p1 = f1_14 p0 p1) : own_Ends p e below s ({ frames := 0, cells := 0, slots := 0, locals := 0 } : Room).cells ({ frames := 0, cells := 0, slots := 0, locals := 0 } : Room).slots (Q1 Z p0 p1 h0 n0) (s₁.setTop (mkF m 14 #[.val (.int p0), .val (.int p1)] [(.int (128 : Int32))])) := by
    show own_Ends p e below s _ _ _ (s₁.setTop (mkF m 14 #[.val (.int p0), .val (.int p1)] [(.int (128 : Int32))]))
    refine own_step (fun t k => XS.i2b X0.here hx rfl (hb hby d1_14) rfl k) ?_
    show own_Ends p e below s _ _ _ (s₁.setTop (mkF m 15 #[.val (.int p0), .val (.int p1)] [(.int ((128 : Int32).toInt8.toInt32))]))
    exact own_retN X0 hx hlk (t := .byte) hret (by simp) (hb hby d1_15) (w := (((128 : Int32).toInt8.toInt32)).toInt8.toInt32) rfl ⟨congrArg (fun w => some (Value.int w)) (Eq.symm hF), N0, e0⟩ (by decide) (by decide)
  have B1_14b (hF : f1_0 p0 p1 = f1_14b p0 p1) : own_Ends p e below s ({ frames := 0, cells := 0, slots := 0, locals := 0 } : Room).cells ({ frames := 0, cells := 0, slots := 0, locals := 0 } : Room).slots (Q1 Z p0 p1 h0 n0) (s₁.setTop (mkF m 14 #[.val (.int p0), .val (.int p1)] [(.int (0 : Int32))])) := by
    show own_Ends p e below s _ _ _ (s₁.setTop (mkF m 14 #[.val (.int p0), .val (.int p1)] [(.int (0 : Int32))]))
    refine own_step (fun t k => XS.i2b X0.here hx rfl (hb hby d1_14) rfl k) ?_
    show own_Ends p e below s _ _ _ (s₁.setTop (mkF m 15 #[.val (.int p0), .val (.int p1)] [(.int ((0 : Int32).toInt8.toInt32))]))
    exact own_retN X0 hx hlk (t := .byte) hret (by simp) (hb hby d1_15) (w := (((0 : Int32).toInt8.toInt32)).toInt8.toInt32) rfl ⟨congrArg (fun w => some (Value.int w)) (Eq.symm hF), N0, e0⟩ (by decide) (by decide)
  show own_Ends p e below s _ _ _ (s₁.setTop (mkF m 0 #[.val (.int p0), .val (.int p1)] []))
  refine own_step (fun t k => XS.iloadN X0.here hx rfl (hb hby d1_0) rfl k) ?_
  show own_Ends p e below s _ _ _ (s₁.setTop (mkF m 1 #[.val (.int p0), .val (.int p1)] [(.int p0)]))
  refine own_step (fun t k => XS.iloadN X0.here hx rfl (hb hby d1_1) rfl k) ?_
  show own_Ends p e below s _ _ _ (s₁.setTop (mkF m 2 #[.val (.int p0), .val (.int p1)] [(.int p1), (.int p0)]))
  refine own_step (fun t k => XS.iconst X0.here hx rfl (hb hby d1_2) k) ?_
  show own_Ends p e below s _ _ _ (s₁.setTop (mkF m 3 #[.val (.int p0), .val (.int p1)] [(.int (1 : Int32)), (.int p1), (.int p0)]))
  refine own_step (fun t k => XS.iadd X0.here hx rfl (hb hby d1_3) rfl k) ?_
  show own_Ends p e below s _ _ _ (s₁.setTop (mkF m 4 #[.val (.int p0), .val (.int p1)] [(.int (p1 + (1 : Int32))), (.int p0)]))
  by_cases hc4_1 : (p1 + (1 : Int32)) < p0
  · -- (p1 + (1 : Int32)) < p0
    refine own_step (fun t k => XS.icmpNo X0.here hx rfl (hb hby d1_4) rfl (tlt hc4_1).2.2.2 k) ?_
    show own_Ends p e below s _ _ _ (s₁.setTop (mkF m 7 #[.val (.int p0), .val (.int p1)] []))
    refine own_step (fun t k => XS.sipush X0.here hx rfl (hb hby d1_7) k) ?_
    show own_Ends p e below s _ _ _ (s₁.setTop (mkF m 10 #[.val (.int p0), .val (.int p1)] [(.int (128 : Int32))]))
    refine own_step (fun t k => XS.goto X0.here hx rfl (pc0 := 10) (pc' := 14) rfl (hb hby d1_10) (by decide) (by decide) k) ?_
    show own_Ends p e below s _ _ _ (s₁.setTop (mkF m 14 #[.val (.int p0), .val (.int p1)] [(.int (128 : Int32))]))
    exact B1_14 ((show f1_0 p0 p1 = _ from rfl).trans (if_pos hc4_1))
  · -- not (p1 + (1 : Int32)) < p0
    refine own_step (fun t k => XS.icmpYes X0.here hx rfl (pc0 := 4) (pc' := 13) rfl (hb hby d1_4) rfl (flt hc4_1).2.2.2 (by decide) (by decide) k) ?_
    show own_Ends p e below s _ _ _ (s₁.setTop (mkF m 13 #[.val (.int p0), .val (.int p1)] []))
    refine own_step (fun t k => XS.iconst X0.here hx rfl (hb hby d1_13) k) ?_
    show own_Ends p e below s _ _ _ (s₁.setTop (mkF m 14 #[.val (.int p0), .val (.int p1)] [(.int (0 : Int32))]))
    exact B1_14b ((show f1_0 p0 p1 = _ from rfl).trans (if_neg hc4_1))
theorem d8_0 : decode prog_30_method_5_code 0 = .ok (.lload_n 1, 1) := by decide +kernel
theorem d8_1 : decode prog_30_method_5_code 1 = .ok (.lconst 0, 1) := by decide +kernel
theorem d8_2 : decode prog_30_method_5_code 2 = .ok (.lcmp, 1) := by decide +kernel
theorem d8_3 : decode prog_30_method_5_code 3 = .ok (.ifCond .lt 18, 3) := by decide +kernel
theorem d8_6 : decode prog_30_method_5_code 6 = .ok (.lload_n 1, 1) := by decide +kernel
theorem d8_7 : decode prog_30_method_5_code 7 = .ok (.aload_n 0, 1) := by decide +kernel
theorem d8_8 : decode prog_30_method_5_code 8 = .ok (.getfield 15, 3) := by decide +kernel
theorem d8_11 : decode prog_30_method_5_code 11 = .ok (.aload_n 0, 1) := by decide +kernel
theorem d8_12 : decode prog_30_method_5_code 12 = .ok (.getfield 19, 3) := by decide +kernel
theorem d8_15 : decode prog_30_method_5_code 15 = .ok (.isub, 1) := by decide +kernel
theorem d8_16 : decode prog_30_method_5_code 16 = .ok (.i2l, 1) := by decide +kernel
theorem d8_17 : decode prog_30_method_5_code 17 = .ok (.lcmp, 1) := by decide +kernel
theorem d8_18 : decode prog_30_method_5_code 18 = .ok (.ifCond .le 17, 3) := by decide +kernel
theorem d8_21 : decode prog_30_method_5_code 21 = .ok (.new 22, 3) := by decide +kernel
theorem d8_24 : decode prog_30_method_5_code 24 = .ok (.dup, 1) := by decide +kernel
theorem d8_25 : decode prog_30_method_5_code 25 = .ok (.aload_n 3, 1) := by decide +kernel
theorem d8_31 : decode prog_30_method_5_code 31 = .ok (.invokespecial 26, 3) := by decide +kernel
theorem d8_34 : decode prog_30_method_5_code 34 = .ok (.athrow, 1) := by decide +kernel
theorem d8_35 : decode prog_30_method_5_code 35 = .ok (.lload_n 1, 1) := by decide +kernel
theorem d8_36 : decode prog_30_method_5_code 36 = .ok (.l2i, 1) := by decide +kernel
theorem d8_37 : decode prog_30_method_5_code 37 = .ok (.ireturn, 1) := by decide +kernel
theorem pn_8 : plainName "com/example/weftline/weftline/runner/CompactWire$Body" = true := by first | (simp [plainName, overriddenIn]; done) | decide +kernel
theorem ef_8 (m : MethodId) (r0 : Addr) (q1 : Int64) (r2 : Addr) : entryFrame m #[(.ref r0), (.long q1), (.ref r2)] 4 = mkF m 0 #[.val (.ref r0), .val (.long q1), .second, .val (.ref r2)] [] := by first | (simp [entryFrame, mkF, argsToLocals, Value.category]; done) | rfl
def f8_0 (q1 : Int64) (ve : Int32) (vp : Int32) : Int32 := (q1.toInt32)
def Q8 (Z : State) (r0 : Addr) (q1 : Int64) (r2 : Addr) (ve : Int32) (vp : Int32) (h0 : Heap) (n0 : Nat) (v : Option Value) (h : Heap) (L : List Loc) : Prop := v = some (.int (f8_0 q1 ve vp)) ∧ Fr n0 L ∧ h = h0
set_option maxRecDepth 65536 in
set_option maxHeartbeats 40000000 in
theorem rm8 (l : Launch) (Z : State) (a0 : Array Value) (hw : ∀ d ∈ tables_1, d.before a0 Z = true) (ws : List Jvm.Cond) (r0 : Addr) (q1 : Int64) (r2 : Addr) (ve : Int32) (vp : Int32) (h0 : Heap) (n0 : Nat) (F_end : Fld Z h0 r0 "com/example/weftline/weftline/runner/CompactWire$Body" "end" "I" (.int ve)) (F_position : Fld Z h0 r0 "com/example/weftline/weftline/runner/CompactWire$Body" "position" "I" (.int vp)) (hg0 : ¬ q1 < (0 : Int64)) (hg1 : ¬ ((ve - vp).toInt64) < q1) :
    MetFree l (⟨"com/example/weftline/weftline/runner/CompactWire$Body", "length", "(JLjava/lang/String;)I"⟩ : MethodName) (head1 (Jvm.Cond.code (⟨"com/example/weftline/weftline/runner/CompactWire$Body", "length", "(JLjava/lang/String;)I"⟩ : MethodName) prog_30_method_5_code 4 (some .int) :: ws) ({ frames := 0, cells := 0, slots := 0, locals := 0 } : Room)) (fun a U => a = #[(.ref r0), (.long q1), (.ref r2)] ∧ Z.Warmed39 U.vm ∧ U.heap = h0) (fun _ _ _ _ _ => True) (fun _ U o U' => ∃ v L, o = .returned v ∧ (Q8 Z r0 q1 r2 ve vp h0 n0) v U'.heap L ∧ FrameEnd U o U' L ({ frames := 0, cells := 0, slots := 0, locals := 0 } : Room).cells ({ frames := 0, cells := 0, slots := 0, locals := 0 } : Room).slots) := by
  refine MetFree.of_bodySF (plainFor_of_name pn_8) hisR ?_
  intro p e s m args below meth c s₁ Bd hml0 hP hK
  obtain ⟨rfl, hZ, hh⟩ := hP
  have hx := Bd.exec
  have hby := Bd.bytes
  have hret := Bd.returns
  have hlk := BodyLoose.notSynchronized Bd
  have hml : c.maxLocals = 4 := hml0
  have hown : s.vm.findClass "com/example/weftline/weftline/runner/CompactWire$Body" = some m.cls := findClass_of_methodNamed Bd.named
  have hnm := (name_of_methodNamed Bd.named Bd.method).1
  have X0 : Stand p l e ({ frames := 0, cells := 0, slots := 0, locals := 0 } : Room) s m #[(.ref r0), (.long q1), (.ref r2)] below meth c s₁ [] 0 0 := Stand.of_body Bd
  have e0 : s₁.heap = h0 := by rw [← hh, Bd.state]; rfl
  have N0 := Fr.nil n0
  show own_Ends p e below s ({ frames := 0, cells := 0, slots := 0, locals := 0 } : Room).cells ({ frames := 0, cells := 0, slots := 0, locals := 0 } : Room).slots (Q8 Z r0 q1 r2 ve vp h0 n0) (s₁.setTop (entryFrame m #[(.ref r0), (.long q1), (.ref r2)] 4))
  refine own_cast (ef_8 m r0 q1 r2) ?_
  show own_Ends p e below s _ _ _ (s₁.setTop (mkF m 0 #[.val (.ref r0), .val (.long q1), .second, .val (.ref r2)] []))
  refine own_step (fun t k => XS.lloadN X0.here hx rfl (hb hby d8_0) rfl k) ?_
  show own_Ends p e below s _ _ _ (s₁.setTop (mkF m 1 #[.val (.ref r0), .val (.long q1), .second, .val (.ref r2)] [(.long q1)]))
  refine own_step (fun t k => XS.lconst X0.here hx rfl (hb hby d8_1) k) ?_
  show own_Ends p e below s _ _ _ (s₁.setTop (mkF m 2 #[.val (.ref r0), .val (.long q1), .second, .val (.ref r2)] [(.long (0 : Int64)), (.long q1)]))
  refine own_step (fun t k => XS.lcmp X0.here hx rfl (hb hby d8_2) rfl k) ?_
  show own_Ends p e below s _ _ _ (s₁.setTop (mkF m 3 #[.val (.ref r0), .val (.long q1), .second, .val (.ref r2)] [(.int (lcmpW q1 (0 : Int64)))]))
  refine own_step (fun t k => XS.ifNo X0.here hx rfl (hb hby d8_3) rfl ((if0 _ _).trans (flt (fun q => hg0 ((lw_lt q1 (0 : Int64)).mp q))).1) k) ?_
  show own_Ends p e below s _ _ _ (s₁.setTop (mkF m 6 #[.val (.ref r0), .val (.long q1), .second, .val (.ref r2)] []))
  refine own_step (fun t k => XS.lloadN X0.here hx rfl (hb hby d8_6) rfl k) ?_
  show own_Ends p e below s _ _ _ (s₁.setTop (mkF m 7 #[.val (.ref r0), .val (.long q1), .second, .val (.ref r2)] [(.long q1)]))
  refine own_step (fun t k => XS.aloadN X0.here hx rfl (hb hby d8_7) rfl rfl k) ?_
  show own_Ends p e below s _ _ _ (s₁.setTop (mkF m 8 #[.val (.ref r0), .val (.long q1), .second, .val (.ref r2)] [(.ref r0), (.long q1)]))
  obtain ⟨T1, X1, e1, st1⟩ := getF X0 hx hZ hown (host := "") (Or.inl (hw _ (List.mem_of_getElem? (i := 40) rfl))) Via.refl e0 F_end (g := (mkF m 8 #[.val (.ref r0), .val (.long q1), .second, .val (.ref r2)] [(.ref r0), (.long q1)])) rfl rfl (hb hby d8_8)
  refine own_step st1 ?_
  show own_Ends p e below s _ _ _ (T1.setTop (mkF m 11 #[.val (.ref r0), .val (.long q1), .second, .val (.ref r2)] [(.int ve), (.long q1)]))
  refine own_step (fun t k => XS.aloadN X1.here hx rfl (hb hby d8_11) rfl rfl k) ?_
  show own_Ends p e below s _ _ _ (T1.setTop (mkF m 12 #[.val (.ref r0), .val (.long q1), .second, .val (.ref r2)] [(.ref r0), (.int ve), (.long q1)]))
  obtain ⟨T2, X2, e2, st2⟩ := getF X1 hx hZ hown (host := "") (Or.inl (hw _ (List.mem_of_getElem? (i := 48) rfl))) Via.refl e1 F_position (g := (mkF m 12 #[.val (.ref r0), .val (.long q1), .second, .val (.ref r2)] [(.ref r0), (.int ve), (.long q1)])) rfl rfl (hb hby d8_12)
  refine own_step st2 ?_
  show own_Ends p e below s _ _ _ (T2.setTop (mkF m 15 #[.val (.ref r0), .val (.long q1), .second, .val (.ref r2)] [(.int vp), (.int ve), (.long q1)]))
  refine own_step (fun t k => XS.isub X2.here hx rfl (hb hby d8_15) rfl k) ?_
  show own_Ends p e below s _ _ _ (T2.setTop (mkF m 16 #[.val (.ref r0), .val (.long q1), .second, .val (.ref r2)] [(.int (ve - vp)), (.long q1)]))
  refine own_step (fun t k => XS.i2l X2.here hx rfl (hb hby d8_16) rfl k) ?_
  show own_Ends p e below s _ _ _ (T2.setTop (mkF m 17 #[.val (.ref r0), .val (.long q1), .second, .val (.ref r2)] [(.long ((ve - vp).toInt64)), (.long q1)]))
  refine own_step (fun t k => XS.lcmp X2.here hx rfl (hb hby d8_17) rfl k) ?_
  show own_Ends p e below s _ _ _ (T2.setTop (mkF m 18 #[.val (.ref r0), .val (.long q1), .second, .val (.ref r2)] [(.int (lcmpW q1 ((ve - vp).toInt64)))]))
  refine own_step (fun t k => XS.ifYes X2.here hx rfl (pc0 := 18) (pc' := 35) rfl (hb hby d8_18) rfl ((if0 _ _).trans (flt (fun q => hg1 ((lw_gt q1 ((ve - vp).toInt64)).mp q))).2.2.2) (by decide) (by decide) k) ?_
  show own_Ends p e below s _ _ _ (T2.setTop (mkF m 35 #[.val (.ref r0), .val (.long q1), .second, .val (.ref r2)] []))
  refine own_step (fun t k => XS.lloadN X2.here hx rfl (hb hby d8_35) rfl k) ?_
  show own_Ends p e below s _ _ _ (T2.setTop (mkF m 36 #[.val (.ref r0), .val (.long q1), .second, .val (.ref r2)] [(.long q1)]))
  refine own_step (fun t k => XS.l2i X2.here hx rfl (hb hby d8_36) rfl k) ?_
  show own_Ends p e below s _ _ _ (T2.setTop (mkF m 37 #[.val (.ref r0), .val (.long q1), .second, .val (.ref r2)] [(.int (q1.toInt32))]))
  exact own_retI X2 hx hlk hret (hb hby d8_37) ⟨congrArg (fun w => some (Value.int w)) (Eq.symm (show f8_0 q1 ve vp = _ from rfl)), N0, e2⟩ (by decide) (by decide)
theorem d3_0 : decode jdk_43_method_3_code 0 = .ok (.iload_n 0, 1) := by decide +kernel
theorem d3_1 : decode jdk_43_method_3_code 1 = .ok (.sipush 255, 3) := by decide +kernel
theorem d3_4 : decode jdk_43_method_3_code 4 = .ok (.if_icmp .gt 7, 3) := by decide +kernel
theorem d3_7 : decode jdk_43_method_3_code 7 = .ok (.iconst 1, 1) := by decide +kernel
theorem d3_8 : decode jdk_43_method_3_code 8 = .ok (.goto 4, 3) := by decide +kernel
theorem d3_11 : decode jdk_43_method_3_code 11 = .ok (.iconst 0, 1) := by decide +kernel
theorem d3_12 : decode jdk_43_method_3_code 12 = .ok (.ireturn, 1) := by decide +kernel
theorem pn_3 : plainName "java/lang/StringLatin1" = true := by first | (simp [plainName, overriddenIn]; done) | decide +kernel
theorem ef_3 (m : MethodId) (p0 : Int32) : entryFrame m #[(.int p0)] 1 = mkF m 0 #[.val (.int p0)] [] := by first | (simp [entryFrame, mkF, argsToLocals, Value.category]; done) | rfl
def f3_12 (p0 : Int32) : Int32 := (0 : Int32)
def f3_12b (p0 : Int32) : Int32 := (1 : Int32)
def f3_0 (p0 : Int32) : Int32 := (if (255 : Int32) < p0 then f3_12 p0 else f3_12b p0)
def Q3 (Z : State) (p0 : Int32) (h0 : Heap) (n0 : Nat) (v : Option Value) (h : Heap) (L : List Loc) : Prop := v = some (.int (f3_0 p0)) ∧ Fr n0 L ∧ h = h0
set_option maxRecDepth 65536 in
set_option maxHeartbeats 40000000 in
theorem rm3 (l : Launch) (Z : State) (a0 : Array Value) (hw : ∀ d ∈ tables_1, d.before a0 Z = true) (ws : List Jvm.Cond) (p0 : Int32) (h0 : Heap) (n0 : Nat) :
    MetFree l (⟨"java/lang/StringLatin1", "canEncode", "(C)Z"⟩ : MethodName) (head1 (Jvm.Cond.code (⟨"java/lang/StringLatin1", "canEncode", "(C)Z"⟩ : MethodName) jdk_43_method_3_code 1 (some .boolean) :: ws) ({ frames := 0, cells := 0, slots := 0, locals := 0 } : Room)) (fun a U => a = #[(.int p0)] ∧ Z.Warmed39 U.vm ∧ U.heap = h0) (fun _ _ _ _ _ => True) (fun _ U o U' => ∃ v L, o = .returned v ∧ (Q3 Z p0 h0 n0) v U'.heap L ∧ FrameEnd U o U' L ({ frames := 0, cells := 0, slots := 0, locals := 0 } : Room).cells ({ frames := 0, cells := 0, slots := 0, locals := 0 } : Room).slots) := by
  refine MetFree.of_bodySF (plainFor_of_name pn_3) hisR ?_
  intro p e s m args below meth c s₁ Bd hml0 hP hK
  obtain ⟨rfl, hZ, hh⟩ := hP
  have hx := Bd.exec
  have hby := Bd.bytes
  have hret := Bd.returns
  have hlk := BodyLoose.notSynchronized Bd
  have hml : c.maxLocals = 1 := hml0
  have hown : s.vm.findClass "java/lang/StringLatin1" = some m.cls := findClass_of_methodNamed Bd.named
  have hnm := (name_of_methodNamed Bd.named Bd.method).1
  have X0 : Stand p l e ({ frames := 0, cells := 0, slots := 0, locals := 0 } : Room) s m #[(.int p0)] below meth c s₁ [] 0 0 := Stand.of_body Bd
  have e0 : s₁.heap = h0 := by rw [← hh, Bd.state]; rfl
  have N0 := Fr.nil n0
  show own_Ends p e below s ({ frames := 0, cells := 0, slots := 0, locals := 0 } : Room).cells ({ frames := 0, cells := 0, slots := 0, locals := 0 } : Room).slots (Q3 Z p0 h0 n0) (s₁.setTop (entryFrame m #[(.int p0)] 1))
  refine own_cast (ef_3 m p0) ?_
  have B3_12 (hF : f3_0 p0 = f3_12 p0) : own_Ends p e below s ({ frames := 0, cells := 0, slots := 0, locals := 0 } : Room).cells ({ frames := 0, cells := 0, slots := 0, locals := 0 } : Room).slots (Q3 Z p0 h0 n0) (s₁.setTop (mkF m 12 #[.val (.int p0)] [(.int (0 : Int32))])) := by
    show own_Ends p e below s _ _ _ (s₁.setTop (mkF m 12 #[.val (.int p0)] [(.int (0 : Int32))]))
    exact own_retN X0 hx hlk (t := .boolean) hret (by simp) (hb hby d3_12) (w := (0 : Int32)) (by decide) ⟨congrArg (fun w => some (Value.int w)) (Eq.symm hF), N0, e0⟩ (by decide) (by decide)
  have B3_12b (hF : f3_0 p0 = f3_12b p0) : own_Ends p e below s ({ frames := 0, cells := 0, slots := 0, locals := 0 } : Room).cells ({ frames := 0, cells := 0, slots := 0, locals := 0 } : Room).slots (Q3 Z p0 h0 n0) (s₁.setTop (mkF m 12 #[.val (.int p0)] [(.int (1 : Int32))])) := by
    show own_Ends p e below s _ _ _ (s₁.setTop (mkF m 12 #[.val (.int p0)] [(.int (1 : Int32))]))
    exact own_retN X0 hx hlk (t := .boolean) hret (by simp) (hb hby d3_12) (w := (1 : Int32)) (by decide) ⟨congrArg (fun w => some (Value.int w)) (Eq.symm hF), N0, e0⟩ (by decide) (by decide)
  show own_Ends p e below s _ _ _ (s₁.setTop (mkF m 0 #[.val (.int p0)] []))
  refine own_step (fun t k => XS.iloadN X0.here hx rfl (hb hby d3_0) rfl k) ?_
  show own_Ends p e below s _ _ _ (s₁.setTop (mkF m 1 #[.val (.int p0)] [(.int p0)]))
  refine own_step (fun t k => XS.sipush X0.here hx rfl (hb hby d3_1) k) ?_
  show own_Ends p e below s _ _ _ (s₁.setTop (mkF m 4 #[.val (.int p0)] [(.int (255 : Int32)), (.int p0)]))
  by_cases hc4_1 : (255 : Int32) < p0
  · -- (255 : Int32) < p0
    refine own_step (fun t k => XS.icmpYes X0.here hx rfl (pc0 := 4) (pc' := 11) rfl (hb hby d3_4) rfl (tlt hc4_1).2.2.1 (by decide) (by decide) k) ?_
    show own_Ends p e below s _ _ _ (s₁.setTop (mkF m 11 #[.val (.int p0)] []))
    refine own_step (fun t k => XS.iconst X0.here hx rfl (hb hby d3_11) k) ?_
    show own_Ends p e below s _ _ _ (s₁.setTop (mkF m 12 #[.val (.int p0)] [(.int (0 : Int32))]))
    exact B3_12 ((show f3_0 p0 = _ from rfl).trans (if_pos hc4_1))
  · -- not (255 : Int32) < p0
    refine own_step (fun t k => XS.icmpNo X0.here hx rfl (hb hby d3_4) rfl (flt hc4_1).2.2.1 k) ?_
    show own_Ends p e below s _ _ _ (s₁.setTop (mkF m 7 #[.val (.int p0)] []))
    refine own_step (fun t k => XS.iconst X0.here hx rfl (hb hby d3_7) k) ?_
    show own_Ends p e below s _ _ _ (s₁.setTop (mkF m 8 #[.val (.int p0)] [(.int (1 : Int32))]))
    refine own_step (fun t k => XS.goto X0.here hx rfl (pc0 := 8) (pc' := 12) rfl (hb hby d3_8) (by decide) (by decide) k) ?_
    show own_Ends p e below s _ _ _ (s₁.setTop (mkF m 12 #[.val (.int p0)] [(.int (1 : Int32))]))
    exact B3_12b ((show f3_0 p0 = _ from rfl).trans (if_neg hc4_1))
theorem d4_0 : decode jdk_43_method_46_code 0 = .ok (.iconst 1, 1) := by decide +kernel
theorem d4_1 : decode jdk_43_method_46_code 1 = .ok (.newarray .byte, 2) := by decide +kernel
theorem d4_3 : decode jdk_43_method_46_code 3 = .ok (.dup, 1) := by decide +kernel
theorem d4_4 : decode jdk_43_method_46_code 4 = .ok (.iconst 0, 1) := by decide +kernel
theorem d4_5 : decode jdk_43_method_46_code 5 = .ok (.iload_n 0, 1) := by decide +kernel
theorem d4_6 : decode jdk_43_method_46_code 6 = .ok (.i2b, 1) := by decide +kernel
theorem d4_7 : decode jdk_43_method_46_code 7 = .ok (.bastore, 1) := by decide +kernel
theorem d4_8 : decode jdk_43_method_46_code 8 = .ok (.areturn, 1) := by decide +kernel
theorem pn_4 : plainName "java/lang/StringLatin1" = true := by first | (simp [plainName, overriddenIn]; done) | decide +kernel
theorem ef_4 (m : MethodId) (p0 : Int32) : entryFrame m #[(.int p0)] 1 = mkF m 0 #[.val (.int p0)] [] := by first | (simp [entryFrame, mkF, argsToLocals, Value.category]; done) | rfl
def Q4 (Z : State) (p0 : Int32) (h0 : Heap) (n0 : Nat) (v : Option Value) (h : Heap) (L : List Loc) : Prop := ∃ r, v = some (.ref r) ∧ Fr n0 L ∧ n0 ≤ h.size ∧ Keep h0 h []
set_option maxRecDepth 65536 in
set_option maxHeartbeats 40000000 in
theorem rm4 (l : Launch) (Z : State) (a0 : Array Value) (hw : ∀ d ∈ tables_1, d.before a0 Z = true) (ws : List Jvm.Cond) (p0 : Int32) (h0 : Heap) (n0 : Nat) (Z0 : n0 ≤ h0.size) :
    MetFree l (⟨"java/lang/StringLatin1", "toBytes", "(C)[B"⟩ : MethodName) (head1 (Jvm.Cond.code (⟨"java/lang/StringLatin1", "toBytes", "(C)[B"⟩ : MethodName) jdk_43_method_46_code 1 (some (.array .byte)) :: ws) ({ frames := 0, cells := 1, slots := 1, locals := 0 } : Room)) (fun a U => a = #[(.int p0)] ∧ Z.Warmed39 U.vm ∧ U.heap = h0) (fun _ _ _ _ _ => True) (fun _ U o U' => ∃ v L, o = .returned v ∧ (Q4 Z p0 h0 n0) v U'.heap L ∧ FrameEnd U o U' L ({ frames := 0, cells := 1, slots := 1, locals := 0 } : Room).cells ({ frames := 0, cells := 1, slots := 1, locals := 0 } : Room).slots) := by
  refine MetFree.of_bodySF (plainFor_of_name pn_4) hisR ?_
  intro p e s m args below meth c s₁ Bd hml0 hP hK
  obtain ⟨rfl, hZ, hh⟩ := hP
  have hx := Bd.exec
  have hby := Bd.bytes
  have hret := Bd.returns
  have hlk := BodyLoose.notSynchronized Bd
  have hml : c.maxLocals = 1 := hml0
  have hown : s.vm.findClass "java/lang/StringLatin1" = some m.cls := findClass_of_methodNamed Bd.named
  have hnm := (name_of_methodNamed Bd.named Bd.method).1
  have X0 : Stand p l e ({ frames := 0, cells := 1, slots := 1, locals := 0 } : Room) s m #[(.int p0)] below meth c s₁ [] 0 0 := Stand.of_body Bd
  have e0 : s₁.heap = h0 := by rw [← hh, Bd.state]; rfl
  have N0 := Fr.nil n0
  show own_Ends p e below s ({ frames := 0, cells := 1, slots := 1, locals := 0 } : Room).cells ({ frames := 0, cells := 1, slots := 1, locals := 0 } : Room).slots (Q4 Z p0 h0 n0) (s₁.setTop (entryFrame m #[(.int p0)] 1))
  refine own_cast (ef_4 m p0) ?_
  have u1 := (Keep.refl h0 [])
  show own_Ends p e below s _ _ _ (s₁.setTop (mkF m 0 #[.val (.int p0)] []))
  refine own_step (fun t k => XS.iconst X0.here hx rfl (hb hby d4_0) k) ?_
  show own_Ends p e below s _ _ _ (s₁.setTop (mkF m 1 #[.val (.int p0)] [(.int (1 : Int32))]))
  obtain ⟨T2, h2, X2, e2, E2, A2, st2⟩ := own_newI X0 hx hZ (hw _ (List.mem_of_getElem? (i := 1) rfl)) e0 (g := (mkF m 1 #[.val (.int p0)] [(.int (1 : Int32))])) rfl (hb hby d4_1) rfl (N := 1) (by decide) (by decide) (by decide) (by decide) rfl
  obtain ⟨b2, g2⟩ : ∃ z, z = h0.size := ⟨_, rfl⟩
  rw [← g2] at A2 st2
  have gn_b2 : n0 ≤ b2 := Nat.le_trans Z0 (Nat.le_of_eq g2.symm)
  have Z2 : n0 ≤ h2.size := Nat.le_trans Z0 E2.1
  have sz_b2 : h0.size ≤ b2 := Nat.le_trans u1.1 (Nat.le_of_eq g2.symm)
  have u3 := (u1.ext E2)
  refine own_step st2 ?_
  show own_Ends p e below s _ _ _ (T2.setTop (mkF m 3 #[.val (.int p0)] [(.ref b2)]))
  refine own_step (fun t k => XS.dup X2.here hx rfl (hb hby d4_3) rfl rfl k) ?_
  show own_Ends p e below s _ _ _ (T2.setTop (mkF m 4 #[.val (.int p0)] [(.ref b2), (.ref b2)]))
  refine own_step (fun t k => XS.iconst X2.here hx rfl (hb hby d4_4) k) ?_
  show own_Ends p e below s _ _ _ (T2.setTop (mkF m 5 #[.val (.int p0)] [(.int (0 : Int32)), (.ref b2), (.ref b2)]))
  refine own_step (fun t k => XS.iloadN X2.here hx rfl (hb hby d4_5) rfl k) ?_
  show own_Ends p e below s _ _ _ (T2.setTop (mkF m 6 #[.val (.int p0)] [(.int p0), (.int (0 : Int32)), (.ref b2), (.ref b2)]))
  refine own_step (fun t k => XS.i2b X2.here hx rfl (hb hby d4_6) rfl k) ?_
  show own_Ends p e below s _ _ _ (T2.setTop (mkF m 7 #[.val (.int p0)] [(.int (p0.toInt8.toInt32)), (.int (0 : Int32)), (.ref b2), (.ref b2)]))
  obtain ⟨T4, h4, X4, e4, W4, A4, st4⟩ := own_stB X2 hx hZ e2 A2 0 (by decide) (by decide) (g := (mkF m 7 #[.val (.int p0)] [(.int (p0.toInt8.toInt32)), (.int (0 : Int32)), (.ref b2), (.ref b2)])) rfl rfl (hb hby d4_7)
  refine own_step st4 ?_
  have N4 := Fr.snoc X4 N0 gn_b2
  have Z4 : n0 ≤ h4.size := by rw [W4.size]; exact Z2
  have u5 := (u3.wr W4 (Or.inr sz_b2))
  show own_Ends p e below s _ _ _ (T4.setTop (mkF m 8 #[.val (.int p0)] [(.ref b2)]))
  exact own_retA X4 hx hlk hret rfl rfl (hb hby d4_8) (by rw [e4]; exact ⟨_, rfl, N4, Z4, u5⟩) (by decide) (by decide)
theorem d5_0 : decode jdk_42_method_151_code 0 = .ok (.aload_n 0, 1) := by decide +kernel
theorem d5_1 : decode jdk_42_method_151_code 1 = .ok (.invokespecial 1, 3) := by decide +kernel
theorem d5_4 : decode jdk_42_method_151_code 4 = .ok (.aload_n 0, 1) := by decide +kernel
theorem d5_5 : decode jdk_42_method_151_code 5 = .ok (.aload_n 1, 1) := by decide +kernel
theorem d5_6 : decode jdk_42_method_151_code 6 = .ok (.putfield 9, 3) := by decide +kernel
theorem d5_9 : decode jdk_42_method_151_code 9 = .ok (.aload_n 0, 1) := by decide +kernel
theorem d5_10 : decode jdk_42_method_151_code 10 = .ok (.iload_n 2, 1) := by decide +kernel
theorem d5_11 : decode jdk_42_method_151_code 11 = .ok (.putfield 15, 3) := by decide +kernel
theorem d5_14 : decode jdk_42_method_151_code 14 = .ok (.return_, 1) := by decide +kernel
theorem pn_5 : plainName "java/lang/String" = true := by first | (simp [plainName, overriddenIn]; done) | decide +kernel
theorem ef_5 (m : MethodId) (r0 : Addr) (r1 : Addr) (p2 : Int32) : entryFrame m #[(.ref r0), (.ref r1), (.int p2)] 3 = mkF m 0 #[.val (.ref r0), .val (.ref r1), .val (.int p2)] [] := by first | (simp [entryFrame, mkF, argsToLocals, Value.category]; done) | rfl
def Q5 (Z : State) (r0 : Addr) (r1 : Addr) (p2 : Int32) (h0 : Heap) (n0 : Nat) (v : Option Value) (h : Heap) (L : List Loc) : Prop := v = none ∧ Fr n0 L ∧ n0 ≤ h.size ∧ Keep h0 h [r0] ∧ Exa Z h r0 "java/lang/String" ∧ Fld Z h r0 "java/lang/String" "value" "[B" (.ref r1) ∧ Fld Z h r0 "java/lang/String" "coder" "B" (.int (nar .byte p2))
set_option maxRecDepth 65536 in
set_option maxHeartbeats 40000000 in
theorem rm5 (l : Launch) (Z : State) (a0 : Array Value) (hw : ∀ d ∈ tables_1, d.before a0 Z = true) (ws : List Jvm.Cond) (r0 : Addr) (r1 : Addr) (p2 : Int32) (h0 : Heap) (n0 : Nat) (Z0 : n0 ≤ h0.size) (gn_r0 : n0 ≤ r0) (E_0 : Exa Z h0 r0 "java/lang/String") (F_value : Fld Z h0 r0 "java/lang/String" "value" "[B" .null) (F_coder : Fld Z h0 r0 "java/lang/String" "coder" "B" (.int (0 : Int32))) :
    MetFree l (⟨"java/lang/String", "<init>", "([BB)V"⟩ : MethodName) (head1 (Jvm.Cond.code (⟨"java/lang/String", "<init>", "([BB)V"⟩ : MethodName) jdk_42_method_151_code 3 none :: ws) ({ frames := 1, cells := 0, slots := 0, locals := 12 } : Room)) (fun a U => a = #[(.ref r0), (.ref r1), (.int p2)] ∧ Z.Warmed39 U.vm ∧ U.heap = h0) (fun _ _ _ _ _ => True) (fun _ U o U' => ∃ v L, o = .returned v ∧ (Q5 Z r0 r1 p2 h0 n0) v U'.heap L ∧ FrameEnd U o U' L ({ frames := 1, cells := 0, slots := 0, locals := 12 } : Room).cells ({ frames := 1, cells := 0, slots := 0, locals := 12 } : Room).slots) := by
  refine MetFree.of_bodySF (plainFor_of_name pn_5) hisR ?_
  intro p e s m args below meth c s₁ Bd hml0 hP hK
  obtain ⟨rfl, hZ, hh⟩ := hP
  have hx := Bd.exec
  have hby := Bd.bytes
  have hret := Bd.returns
  have hlk := BodyLoose.notSynchronized Bd
  have hml : c.maxLocals = 3 := hml0
  have hown : s.vm.findClass "java/lang/String" = some m.cls := findClass_of_methodNamed Bd.named
  have hnm := (name_of_methodNamed Bd.named Bd.method).1
  have X0 : Stand p l e ({ frames := 1, cells := 0, slots := 0, locals := 12 } : Room) s m #[(.ref r0), (.ref r1), (.int p2)] below meth c s₁ [] 0 0 := Stand.of_body Bd
  have e0 : s₁.heap = h0 := by rw [← hh, Bd.state]; rfl
  have N0 := Fr.nil n0
  show own_Ends p e below s ({ frames := 1, cells := 0, slots := 0, locals := 12 } : Room).cells ({ frames := 1, cells := 0, slots := 0, locals := 12 } : Room).slots (Q5 Z r0 r1 p2 h0 n0) (s₁.setTop (entryFrame m #[(.ref r0), (.ref r1), (.int p2)] 3))
  refine own_cast (ef_5 m r0 r1 p2) ?_
  have u1 := (Keep.refl h0 [r0])
  show own_Ends p e below s _ _ _ (s₁.setTop (mkF m 0 #[.val (.ref r0), .val (.ref r1), .val (.int p2)] []))
  refine own_step (fun t k => XS.aloadN X0.here hx rfl (hb hby d5_0) rfl rfl k) ?_
  show own_Ends p e below s _ _ _ (s₁.setTop (mkF m 1 #[.val (.ref r0), .val (.ref r1), .val (.int p2)] [(.ref r0)]))
  obtain ⟨T2, X2, e2, st2⟩ := initO X0 hx hZ hown (hw _ (List.mem_of_getElem? (i := 24) rfl)) (hw _ (List.mem_of_getElem? (i := 25) rfl)) (hw _ (List.mem_of_getElem? (i := 26) rfl)) e0 (g := (mkF m 1 #[.val (.ref r0), .val (.ref r1), .val (.int p2)] [(.ref r0)])) rfl (by rw [hml]; rfl) rfl (hb hby d5_1) (by decide) (W := 0) (by show 2 * 0 + _ ≤ _; exact Nat.le_of_eq rfl) (by decide)
  refine own_step st2 ?_
  show own_Ends p e below s _ _ _ (T2.setTop (mkF m 4 #[.val (.ref r0), .val (.ref r1), .val (.int p2)] []))
  refine own_step (fun t k => XS.aloadN X2.here hx rfl (hb hby d5_4) rfl rfl k) ?_
  show own_Ends p e below s _ _ _ (T2.setTop (mkF m 5 #[.val (.ref r0), .val (.ref r1), .val (.int p2)] [(.ref r0)]))
  refine own_step (fun t k => XS.aloadN X2.here hx rfl (hb hby d5_5) rfl rfl k) ?_
  show own_Ends p e below s _ _ _ (T2.setTop (mkF m 6 #[.val (.ref r0), .val (.ref r1), .val (.int p2)] [(.ref r1), (.ref r0)]))
  obtain ⟨T3, h3, X3, e3, W3, st3⟩ := putF X2 hx hZ hown (host := "") (Or.inl (hw _ (List.mem_of_getElem? (i := 27) rfl))) Via.refl e2 F_value E_0 (Or.inr ⟨(hw _ (List.mem_of_getElem? (i := 28) rfl)), rfl, hnm⟩) (hw _ (List.mem_of_getElem? (i := 16) rfl)) (ty := (.array .byte)) (by decide) rfl rfl (g := (mkF m 6 #[.val (.ref r0), .val (.ref r1), .val (.int p2)] [(.ref r1), (.ref r0)])) rfl rfl (hb hby d5_6)
  refine own_step st3 ?_
  have N3 := Fr.snoc X3 N0 gn_r0
  have Z3 : n0 ≤ h3.size := by rw [W3.size]; exact Z0
  have u4 := (E_0.wr W3)
  have u5 := (F_value.same W3)
  have u6 := (F_coder.other W3 (Or.inr (slot_ne (Or.inr (hw _ (List.mem_of_getElem? (i := 30) rfl))) (Or.inr (hw _ (List.mem_of_getElem? (i := 28) rfl))) (by decide) (t := .byte) (t' := (.array .byte)) (by decide) (by decide))))
  have u7 := (u1.wr W3 (Or.inl (List.mem_of_getElem? (i := 0) rfl)))
  show own_Ends p e below s _ _ _ (T3.setTop (mkF m 9 #[.val (.ref r0), .val (.ref r1), .val (.int p2)] []))
  refine own_step (fun t k => XS.aloadN X3.here hx rfl (hb hby d5_9) rfl rfl k) ?_
  show own_Ends p e below s _ _ _ (T3.setTop (mkF m 10 #[.val (.ref r0), .val (.ref r1), .val (.int p2)] [(.ref r0)]))
  refine own_step (fun t k => XS.iloadN X3.here hx rfl (hb hby d5_10) rfl k) ?_
  show own_Ends p e below s _ _ _ (T3.setTop (mkF m 11 #[.val (.ref r0), .val (.ref r1), .val (.int p2)] [(.int p2), (.ref r0)]))
  obtain ⟨T8, h8, X8, e8, W8, st8⟩ := putFN X3 hx hZ hown (hw _ (List.mem_of_getElem? (i := 29) rfl)) Via.refl e3 u6 u4 (Or.inr ⟨(hw _ (List.mem_of_getElem? (i := 30) rfl)), rfl, hnm⟩) (hw _ (List.mem_of_getElem? (i := 16) rfl)) (ty := .byte) (v' := (.int (nar .byte p2))) (by decide) rfl (fits_nar_byte _) (g := (mkF m 11 #[.val (.ref r0), .val (.ref r1), .val (.int p2)] [(.int p2), (.ref r0)])) rfl rfl (hb hby d5_11)
  refine own_step st8 ?_
  have N8 := Fr.snoc X8 N3 gn_r0
  have Z8 : n0 ≤ h8.size := by rw [W8.size]; exact Z3
  have u9 := (u4.wr W8)
  have u10 := (u5.other W8 (Or.inr (slot_ne (Or.inr (hw _ (List.mem_of_getElem? (i := 28) rfl))) (Or.inr (hw _ (List.mem_of_getElem? (i := 30) rfl))) (by decide) (t := (.array .byte)) (t' := .byte) (by decide) (by decide))))
  have u11 := (u6.same W8)
  have u12 := (u7.wr W8 (Or.inl (List.mem_of_getElem? (i := 0) rfl)))
  show own_Ends p e below s _ _ _ (T8.setTop (mkF m 14 #[.val (.ref r0), .val (.ref r1), .val (.int p2)] []))
  exact own_ret0 X8 hx hlk hret (hb hby d5_14) (by rw [e8]; exact ⟨rfl, N8, Z8, u12, u9, u10, u11⟩) (by decide) (by decide)
theorem d2_0 : decode jdk_42_method_139_code 0 = .ok (.getstatic 38, 3) := by decide +kernel
theorem d2_3 : decode jdk_42_method_139_code 3 = .ok (.ifCond .eq 23, 3) := by decide +kernel
theorem d2_6 : decode jdk_42_method_139_code 6 = .ok (.iload_n 0, 1) := by decide +kernel
theorem d2_7 : decode jdk_42_method_139_code 7 = .ok (.invokestatic 1015, 3) := by decide +kernel
theorem d2_10 : decode jdk_42_method_139_code 10 = .ok (.ifCond .eq 16, 3) := by decide +kernel
theorem d2_13 : decode jdk_42_method_139_code 13 = .ok (.new 10, 3) := by decide +kernel
theorem d2_16 : decode jdk_42_method_139_code 16 = .ok (.dup, 1) := by decide +kernel
theorem d2_17 : decode jdk_42_method_139_code 17 = .ok (.iload_n 0, 1) := by decide +kernel
theorem d2_18 : decode jdk_42_method_139_code 18 = .ok (.invokestatic 1018, 3) := by decide +kernel
theorem d2_21 : decode jdk_42_method_139_code 21 = .ok (.iconst 0, 1) := by decide +kernel
theorem d2_22 : decode jdk_42_method_139_code 22 = .ok (.invokespecial 209, 3) := by decide +kernel
theorem d2_25 : decode jdk_42_method_139_code 25 = .ok (.areturn, 1) := by decide +kernel
theorem d2_26 : decode jdk_42_method_139_code 26 = .ok (.new 10, 3) := by decide +kernel
theorem d2_29 : decode jdk_42_method_139_code 29 = .ok (.dup, 1) := by decide +kernel
theorem d2_30 : decode jdk_42_method_139_code 30 = .ok (.iload_n 0, 1) := by decide +kernel
theorem d2_31 : decode jdk_42_method_139_code 31 = .ok (.invokestatic 1021, 3) := by decide +kernel
theorem d2_34 : decode jdk_42_method_139_code 34 = .ok (.iconst 1, 1) := by decide +kernel
theorem d2_35 : decode jdk_42_method_139_code 35 = .ok (.invokespecial 209, 3) := by decide +kernel
theorem d2_38 : decode jdk_42_method_139_code 38 = .ok (.areturn, 1) := by decide +kernel
theorem pn_2 : plainName "java/lang/String" = true := by first | (simp [plainName, overriddenIn]; done) | decide +kernel
theorem ef_2 (m : MethodId) (p0 : Int32) : entryFrame m #[(.int p0)] 1 = mkF m 0 #[.val (.int p0)] [] := by first | (simp [entryFrame, mkF, argsToLocals, Value.category]; done) | rfl
theorem pd2_0 : parseMethodDescriptor "(C)Z" = some ⟨[.char], some .boolean⟩ := by decide +kernel
theorem pd2_1 : parseMethodDescriptor "(C)[B" = some ⟨[.char], some (.array .byte)⟩ := by decide +kernel
theorem pd2_2 : parseMethodDescriptor "([BB)V" = some ⟨[(.array .byte), .byte], none⟩ := by decide +kernel
def Q2 (Z : State) (p0 : Int32) (cs : Int32) (h0 : Heap) (n0 : Nat) (v : Option Value) (h : Heap) (L : List Loc) : Prop := ∃ r, v = some (.ref r) ∧ Fr n0 L ∧ n0 ≤ h.size ∧ Keep h0 h []
theorem own_can {p0 : Int32} (hp : ¬ (255 : Int32) < p0) : ¬ f3_0 p0 = (0 : Int32) := by
  rw [show f3_0 p0 = (1 : Int32) from if_neg hp]; decide
set_option maxRecDepth 65536 in
set_option maxHeartbeats 40000000 in
theorem rm2 (l : Launch) (Z : State) (a0 : Array Value) (hw : ∀ d ∈ tables_1, d.before a0 Z = true) (ws : List Jvm.Cond) (p0 : Int32) (cs : Int32) (h0 : Heap) (n0 : Nat) (Z0 : n0 ≤ h0.size) (S_0 : Sta Z h0 "java/lang/String" "COMPACT_STRINGS" "Z" (.int cs)) (hcs : ¬ cs = (0 : Int32)) (hp : ¬ (255 : Int32) < p0) :
    MetFree l (⟨"java/lang/String", "valueOf", "(C)Ljava/lang/String;"⟩ : MethodName) (head1 (Jvm.Cond.code (⟨"java/lang/String", "valueOf", "(C)Ljava/lang/String;"⟩ : MethodName) jdk_42_method_139_code 1 (some (.object "java/lang/String")) :: ws) ({ frames := 2, cells := 2, slots := 5, locals := 27 } : Room)) (fun a U => a = #[(.int p0)] ∧ Z.Warmed39 U.vm ∧ U.heap = h0) (fun _ _ _ _ _ => True) (fun _ U o U' => ∃ v L, o = .returned v ∧ (Q2 Z p0 cs h0 n0) v U'.heap L ∧ FrameEnd U o U' L ({ frames := 2, cells := 2, slots := 5, locals := 27 } : Room).cells ({ frames := 2, cells := 2, slots := 5, locals := 27 } : Room).slots) := by
  refine MetFree.of_bodySF (plainFor_of_name pn_2) hisR ?_
  intro p e s m args below meth c s₁ Bd hml0 hP hK
  obtain ⟨rfl, hZ, hh⟩ := hP
  have hx := Bd.exec
  have hby := Bd.bytes
  have hret := Bd.returns
  have hlk := BodyLoose.notSynchronized Bd
  have hml : c.maxLocals = 1 := hml0
  have hown : s.vm.findClass "java/lang/String" = some m.cls := findClass_of_methodNamed Bd.named
  have hnm := (name_of_methodNamed Bd.named Bd.method).1
  have X0 : Stand p l e ({ frames := 2, cells := 2, slots := 5, locals := 27 } : Room) s m #[(.int p0)] below meth c s₁ [] 0 0 := Stand.of_body Bd
  have e0 : s₁.heap = h0 := by rw [← hh, Bd.state]; rfl
  have N0 := Fr.nil n0
  show own_Ends p e below s ({ frames := 2, cells := 2, slots := 5, locals := 27 } : Room).cells ({ frames := 2, cells := 2, slots := 5, locals := 27 } : Room).slots (Q2 Z p0 cs h0 n0) (s₁.setTop (entryFrame m #[(.int p0)] 1))
  refine own_cast (ef_2 m p0) ?_
  have u1 := (Keep.refl h0 [])
  show own_Ends p e below s _ _ _ (s₁.setTop (mkF m 0 #[.val (.int p0)] []))
  obtain ⟨T2, X2, e2, st2⟩ := getS2 X0 hx hZ hown (host := "") (Or.inl (hw _ (List.mem_of_getElem? (i := 10) rfl))) Via.refl e0 S_0 (g := (mkF m 0 #[.val (.int p0)] [])) rfl (hb hby d2_0)
  refine own_step st2 ?_
  show own_Ends p e below s _ _ _ (T2.setTop (mkF m 3 #[.val (.int p0)] [(.int cs)]))
  refine own_step (fun t k => XS.ifNo X2.here hx rfl (hb hby d2_3) rfl ((if0 _ _).trans (feq hcs).1) k) ?_
  show own_Ends p e below s _ _ _ (T2.setTop (mkF m 6 #[.val (.int p0)] []))
  refine own_step (fun t k => XS.iloadN X2.here hx rfl (hb hby d2_6) rfl k) ?_
  show own_Ends p e below s _ _ _ (T2.setTop (mkF m 7 #[.val (.int p0)] [(.int p0)]))
  obtain ⟨_, _, ⟨T3, L3, k3, n3⟩, -, X3, ⟨Lc3, hQ3, l3, y3, z3⟩, st3⟩ := Jvm.LawKit.callS X2 hx (y := (⟨"java/lang/StringLatin1", "canEncode", "(C)Z"⟩ : MethodName)) hown (mvT hZ (hw _ (List.mem_of_getElem? (i := 11) rfl))) (mvT hZ (hw _ (List.mem_of_getElem? (i := 12) rfl))) (mvT hZ (hw _ (List.mem_of_getElem? (i := 13) rfl))) (mvT hZ (hw _ (List.mem_of_getElem? (i := 14) rfl))) (by decide) (backOf (W := 0) (rm3 l Z a0 hw [] p0  h0 n0  ) hZ (hw _ (List.mem_of_getElem? (i := 14) rfl)) (hw _ (List.mem_of_getElem? (i := 13) rfl)) (by decide) (by decide)) (g := (mkF m 7 #[.val (.int p0)] [(.int p0)])) rfl (by rw [hml]; rfl) (argsL := [(.int p0)]) (rest := []) (lenOf pd2_0 rfl) rfl (by show 2 * 0 + _ ≤ _; exact Nat.le_of_eq rfl) (hb hby d2_7) (fun _ _ => ⟨rfl, e2, (by decide : 0 + 0 ≤ _), (by decide : 0 + 0 ≤ _)⟩)
  dsimp only [Pt.U, Pt.locs, Pt.cells, Pt.slots] at X3 l3 y3 z3 st3 hQ3
  subst l3 y3 z3
  obtain ⟨rfl, N3q, e3⟩ := hQ3
  have N3 := Fr.app N0 N3q
  refine own_step st3 ?_
  show own_Ends p e below s _ _ _ (T3.setTop (mkF m 10 #[.val (.int p0)] [(.int (f3_0 p0))]))
  refine own_step (fun t k => XS.ifNo X3.here hx rfl (hb hby d2_10) rfl ((if0 _ _).trans (feq (own_can hp)).1) k) ?_
  show own_Ends p e below s _ _ _ (T3.setTop (mkF m 13 #[.val (.int p0)] []))
  obtain ⟨T4, h4, X4, e4, E4, A4, D4, -, st4⟩ := newO X3 hx hZ hown (hw _ (List.mem_of_getElem? (i := 15) rfl)) (hw _ (List.mem_of_getElem? (i := 16) rfl)) (hw _ (List.mem_of_getElem? (i := 8) rfl)) e3 (g := (mkF m 13 #[.val (.int p0)] [])) rfl (hb hby d2_13) (by decide) (by decide)
  obtain ⟨b4, g4⟩ : ∃ z, z = h0.size := ⟨_, rfl⟩
  rw [← g4] at A4 D4 st4
  have gn_b4 : n0 ≤ b4 := Nat.le_trans Z0 (Nat.le_of_eq g4.symm)
  have Z4 : n0 ≤ h4.size := Nat.le_trans Z0 E4.1
  have sz_b4 : h0.size ≤ b4 := Nat.le_trans u1.1 (Nat.le_of_eq g4.symm)
  have u5 := (S_0.ext E4)
  have u6 := (u1.ext E4)
  have F4_value : Fld Z h4 b4 "java/lang/String" "value" "[B" .null := D4 (Or.inr (hw _ (List.mem_of_getElem? (i := 28) rfl))) (ty := (.array .byte)) (by decide)
  have F4_coder : Fld Z h4 b4 "java/lang/String" "coder" "B" (.int (0 : Int32)) := D4 (Or.inr (hw _ (List.mem_of_getElem? (i := 30) rfl))) (ty := .byte) (by decide)
  refine own_step st4 ?_
  show own_Ends p e below s _ _ _ (T4.setTop (mkF m 16 #[.val (.int p0)] [(.ref b4)]))
  refine own_step (fun t k => XS.dup X4.here hx rfl (hb hby d2_16) rfl rfl k) ?_
  show own_Ends p e below s _ _ _ (T4.setTop (mkF m 17 #[.val (.int p0)] [(.ref b4), (.ref b4)]))
  refine own_step (fun t k => XS.iloadN X4.here hx rfl (hb hby d2_17) rfl k) ?_
  show own_Ends p e below s _ _ _ (T4.setTop (mkF m 18 #[.val (.int p0)] [(.int p0), (.ref b4), (.ref b4)]))
  obtain ⟨_, _, ⟨T7, L7, k7, n7⟩, -, X7, ⟨Lc7, hQ7, l7, y7, z7⟩, st7⟩ := Jvm.LawKit.callS X4 hx (y := (⟨"java/lang/StringLatin1", "toBytes", "(C)[B"⟩ : MethodName)) hown (mvT hZ (hw _ (List.mem_of_getElem? (i := 17) rfl))) (mvT hZ (hw _ (List.mem_of_getElem? (i := 18) rfl))) (mvT hZ (hw _ (List.mem_of_getElem? (i := 13) rfl))) (mvT hZ (hw _ (List.mem_of_getElem? (i := 19) rfl))) (by decide) (backOf (W := 2) (rm4 l Z a0 hw [] p0  h4 n0 Z4 ) hZ (hw _ (List.mem_of_getElem? (i := 19) rfl)) (hw _ (List.mem_of_getElem? (i := 13) rfl)) (by decide) (by decide)) (g := (mkF m 18 #[.val (.int p0)] [(.int p0), (.ref b4), (.ref b4)])) rfl (by rw [hml]; rfl) (argsL := [(.int p0)]) (rest := [(.ref b4), (.ref b4)]) (lenOf pd2_1 rfl) rfl (by show 2 * 0 + _ ≤ _; exact Nat.le_of_eq rfl) (hb hby d2_18) (fun _ _ => ⟨rfl, e4, (by decide : 1 + 1 ≤ _), (by decide : 4 + 1 ≤ _)⟩)
  dsimp only [Pt.U, Pt.locs, Pt.cells, Pt.slots] at X7 l7 y7 z7 st7 hQ7
  subst l7 y7 z7
  obtain ⟨r7, rfl, N7q, Z7, K7⟩ := hQ7
  have N7 := Fr.app N3 N7q
  have u8 := (u6.trans K7 (fun x q => nomatch q))
  have u9 := (A4.keep K7)
  have u10 := (F4_value.keep K7 nin0)
  have u11 := (F4_coder.keep K7 nin0)
  refine own_step st7 ?_
  show own_Ends p e below s _ _ _ (T7.setTop (mkF m 21 #[.val (.int p0)] [(.ref r7), (.ref b4), (.ref b4)]))
  refine own_step (fun t k => XS.iconst X7.here hx rfl (hb hby d2_21) k) ?_
  show own_Ends p e below s _ _ _ (T7.setTop (mkF m 22 #[.val (.int p0)] [(.int (0 : Int32)), (.ref r7), (.ref b4), (.ref b4)]))
  obtain ⟨_, _, ⟨T12, L12, k12, n12⟩, -, X12, ⟨Lc12, hQ12, l12, y12, z12⟩, st12⟩ := X7.specialBack hx (y := (⟨"java/lang/String", "<init>", "([BB)V"⟩ : MethodName)) rfl hown (mvT hZ (hw _ (List.mem_of_getElem? (i := 20) rfl))) (mvT hZ (hw _ (List.mem_of_getElem? (i := 21) rfl))) (mvT hZ (hw _ (List.mem_of_getElem? (i := 23) rfl))) (by decide) (backOf (W := 1) (rm5 l Z a0 hw [] b4 r7 (0 : Int32)  T7.heap n0 Z7 gn_b4 u9 u10 u11) hZ (hw _ (List.mem_of_getElem? (i := 23) rfl)) (hw _ (List.mem_of_getElem? (i := 8) rfl)) (by decide) (by decide)) (g := (mkF m 22 #[.val (.int p0)] [(.int (0 : Int32)), (.ref r7), (.ref b4), (.ref b4)])) rfl (by rw [hml]; rfl) (Steps.refl _) (a := b4) (argsL := [(.ref r7), (.int (0 : Int32))]) (rest := [(.ref b4)]) (lenOf pd2_2 rfl) rfl (by show 2 * 0 + _ ≤ _; exact Nat.le_of_eq rfl) (hb hby d2_22) (fun _ _ => ⟨rfl, rfl, (by decide : 2 + 0 ≤ _), (by decide : 5 + 0 ≤ _)⟩)
  dsimp only [Pt.U, Pt.locs, Pt.cells, Pt.slots] at X12 l12 y12 z12 st12 hQ12
  subst l12 y12 z12
  obtain ⟨rfl, N12q, Z12, K12, E12_0, F12_value, F12_coder⟩ := hQ12
  have N12 := Fr.app N7 N12q
  have u13 := (u8.trans K12 (fun x q => by cases List.mem_singleton.mp q; exact Or.inr sz_b4))
  refine own_step (fun t k => st12.trans k) ?_
  show own_Ends p e below s _ _ _ (T12.setTop (mkF m 25 #[.val (.int p0)] [(.ref b4)]))
  exact own_retA X12 hx hlk hret rfl rfl (hb hby d2_25) ⟨_, rfl, N12, Z12, u13⟩ (by decide) (by decide)
theorem own_congrI {Z : State} {h : Heap} {a : Addr} {ty : FieldType} {n : Nat} {f g : Nat → Int32} (A : own_AI Z h a ty n f) (q : ∀ k, k < n → f k = g k) : own_AI Z h a ty n g := by
  obtain ⟨c, A1, A2, A3⟩ := A
  exact ⟨c, A1, A2, fun k hk => by rw [A3 k hk]; exact congrArg (fun w => some (Value.int w)) (q k hk)⟩
def own_cb (K i : Nat) : Int32 := if i + 1 < K then (-128 : Int32) else 0
section Law
variable {a ee kk rr vp w : Int32} {q ag : Int64} {K : Nat}
theorem own_e (h : ((a &&& (2147483647 : Int32)) % (9 : Int32)) = ee) : 0 ≤ ee.toInt ∧ ee.toInt ≤ 8 := by
  have m1 := c_mask a 2147483647 31 (by decide) (by decide)
  have m2 := (c_irem (a &&& (2147483647 : Int32)) (9 : Int32) 9 (by decide)).1
  rw [h] at m2
  omega
theorem own_e1 (he : 0 ≤ ee.toInt ∧ ee.toInt ≤ 8) : (ee + (1 : Int32)).toInt = ee.toInt + 1 := by
  have a := c_iadd ee 1
  have r := rng32 (ee + 1)
  have z : (1 : Int32).toInt = 1 := by decide
  omega
theorem own_ne1 (he : 0 ≤ ee.toInt ∧ ee.toInt ≤ 8) : (ee + (1 : Int32)) ≠ 0 := fun q => by
  have e := own_e1 he
  rw [q] at e
  have z : (0 : Int32).toInt = 0 := by decide
  omega
theorem own_kk (he : 0 ≤ ee.toInt ∧ ee.toInt ≤ 8) (h : ((a &&& (2147483647 : Int32)) % (ee + (1 : Int32))) = kk) : ∃ K : Nat, kk.toInt = (K : Int) ∧ K ≤ 8 ∧ (K : Int) ≤ ee.toInt := by
  have m1 := c_mask a 2147483647 31 (by decide) (by decide)
  have e := own_e1 he
  have m2 := (c_iremV (a &&& (2147483647 : Int32)) (ee + (1 : Int32))).1 (by omega) (by omega)
  rw [h] at m2
  exact ⟨kk.toInt.toNat, by omega, by omega, by omega⟩
theorem own_ct (hK : kk.toInt = (K : Int)) (n : Nat) (N : Int32) (hN : (N + (1 : Int32)).toInt = ((n + 1 : Nat) : Int)) : (f1_0 kk N).toInt8.toInt32 = own_cb K n := by
  unfold f1_0
  by_cases c : (N + (1 : Int32)) < kk
  · rw [if_pos c]
    rw [Int32.lt_iff_toInt_lt] at c
    rw [own_cb, if_pos (by omega)]
    show (((128 : Int32).toInt8.toInt32).toInt8.toInt32).toInt8.toInt32 = (-128 : Int32)
    decide
  · rw [if_neg c]
    rw [Int32.lt_iff_toInt_lt] at c
    rw [own_cb, if_neg (by omega)]
    show (((0 : Int32).toInt8.toInt32).toInt8.toInt32).toInt8.toInt32 = (0 : Int32)
    decide
theorem own_cb_eq (hK : kk.toInt = (K : Int)) (hK8 : K ≤ 8) : ∀ i, i < 8 → (own_up (own_up (own_up (own_up (own_up (own_up (own_up (own_up (fun _ => 0) 0 ((f1_0 kk (0 : Int32)).toInt8.toInt32)) 1 ((f1_0 kk (1 : Int32)).toInt8.toInt32)) 2 ((f1_0 kk (2 : Int32)).toInt8.toInt32)) 3 ((f1_0 kk (3 : Int32)).toInt8.toInt32)) 4 ((f1_0 kk (4 : Int32)).toInt8.toInt32)) 5 ((f1_0 kk (5 : Int32)).toInt8.toInt32)) 6 ((f1_0 kk (6 : Int32)).toInt8.toInt32)) 7 ((0 : Int32).toInt8.toInt32)) i = own_cb K i := fun i hi => by
  by_cases d0 : i = 0
  · subst d0; exact own_ct hK 0 0 (by decide)
  by_cases d1 : i = 1
  · subst d1; exact own_ct hK 1 1 (by decide)
  by_cases d2 : i = 2
  · subst d2; exact own_ct hK 2 2 (by decide)
  by_cases d3 : i = 3
  · subst d3; exact own_ct hK 3 3 (by decide)
  by_cases d4 : i = 4
  · subst d4; exact own_ct hK 4 4 (by decide)
  by_cases d5 : i = 5
  · subst d5; exact own_ct hK 5 5 (by decide)
  by_cases d6 : i = 6
  · subst d6; exact own_ct hK 6 6 (by decide)
  by_cases d7 : i = 7
  · subst d7
    rw [own_cb, if_neg (by omega)]; rfl
  omega
theorem own_chr (b : Int32) : ¬ (255 : Int32) < ((b &&& (255 : Int32)).toUInt32.toUInt16.toUInt32.toInt32) := by
  have m := c_mask b 255 8 (by decide) (by decide)
  have e := c_i2c (b &&& (255 : Int32))
  have z : (255 : Int32).toInt = 255 := by decide
  rw [Int32.lt_iff_toInt_lt]
  omega
theorem own_K1 (hK : kk.toInt = (K : Int)) (h : ¬ kk < (1 : Int32)) : 1 ≤ K := by
  rw [Int32.lt_iff_toInt_lt] at h
  have z : (1 : Int32).toInt = 1 := by decide
  omega
theorem own_k0 (hK : kk.toInt = (K : Int)) (h : kk < (1 : Int32)) : kk = (0 : Int32) := by
  rw [Int32.lt_iff_toInt_lt] at h
  have z : (1 : Int32).toInt = 1 := by decide
  have z0 : (0 : Int32).toInt = 0 := by decide
  exact Int32.toInt_inj.mp (by omega)
theorem own_c1 (hK1 : 1 ≤ K) : ∀ i, i < K - 1 → ¬ (((own_cb K (0 + i)) &&& (255 : Int32)) &&& (128 : Int32)) = (0 : Int32) := fun i hi => by
  rw [own_cb, if_pos (by omega)]; decide
theorem own_c2 (hK1 : 1 ≤ K) : (((own_cb K (0 + (K - 1))) &&& (255 : Int32)) &&& (128 : Int32)) = (0 : Int32) := by
  rw [own_cb, if_neg (by omega)]; decide
theorem own_c3 (hK1 : 1 ≤ K) (hKe : (K : Int) ≤ ee.toInt) (he : 0 ≤ ee.toInt ∧ ee.toInt ≤ 8) : ∀ i, i ≤ K - 1 → ((0 + i : Nat) : Int) ≠ ee.toInt := fun i hi => by omega
theorem own_wk (hK : kk.toInt = (K : Int)) (hK1 : 1 ≤ K) (h : w.toInt = ((0 + (K - 1) + 1 : Nat) : Int)) : w = kk := Int32.toInt_inj.mp (by omega)
theorem own_r (he : 0 ≤ ee.toInt ∧ ee.toInt ≤ 8) (hK : kk.toInt = (K : Int)) (hKe : (K : Int) ≤ ee.toInt) (h : (ee - kk) = rr) : 0 ≤ rr.toInt ∧ rr.toInt ≤ 8 := by
  have m := c_isub ee kk
  have r := rng32 (ee - kk)
  rw [h] at m r
  omega
theorem own_r1 (hr : 0 ≤ rr.toInt ∧ rr.toInt ≤ 8) : ((rr + (1 : Int32)).toInt64).toInt = rr.toInt + 1 := by rw [c_i2l]; exact own_e1 hr
theorem own_ne2 (hr : 0 ≤ rr.toInt ∧ rr.toInt ≤ 8) : ((rr + (1 : Int32)).toInt64) ≠ 0 := fun q => by
  have e := own_r1 hr
  rw [q] at e
  have z : (0 : Int64).toInt = 0 := by decide
  omega
theorem own_ag (hr : 0 ≤ rr.toInt ∧ rr.toInt ≤ 8) (h : ((q &&& (9223372036854775807 : Int64)) % ((rr + (1 : Int32)).toInt64)) = ag) : 0 ≤ ag.toInt ∧ ag.toInt ≤ rr.toInt := by
  have m1 := c_maskL q 9223372036854775807 63 (by decide) (by decide)
  have m2 := (c_lrem (q &&& (9223372036854775807 : Int64)) ((rr + (1 : Int32)).toInt64) (rr.toInt + 1) (own_r1 hr)).1 (by omega)
  rw [lrem_mod, h] at m2
  have a1 := Int.emod_nonneg (q &&& (9223372036854775807 : Int64)).toInt (show rr.toInt + 1 ≠ 0 by omega)
  have a2 := Int.emod_lt_of_pos (q &&& (9223372036854775807 : Int64)).toInt (show 0 < rr.toInt + 1 by omega)
  omega
theorem own_z (hk0 : kk = (0 : Int32)) (h : (ee - kk) = rr) : (ee - (0 : Int32)) = rr := hk0 ▸ h
theorem own_l0 (ha : 0 ≤ ag.toInt ∧ ag.toInt ≤ rr.toInt) : ¬ ag < (0 : Int64) := by
  rw [Int64.lt_iff_toInt_lt]
  have z : (0 : Int64).toInt = 0 := by decide
  omega
theorem own_l1 (ha : 0 ≤ ag.toInt ∧ ag.toInt ≤ rr.toInt) (h : (ee - vp) = rr) : ¬ ((ee - vp).toInt64) < ag := by
  rw [h, Int64.lt_iff_toInt_lt, c_i2l]
  omega
theorem own_l2 (hr : 0 ≤ rr.toInt ∧ rr.toInt ≤ 8) : ¬ (rr.toInt64) < (0 : Int64) := by
  rw [Int64.lt_iff_toInt_lt, c_i2l]
  have z : (0 : Int64).toInt = 0 := by decide
  omega
theorem own_l3 (h : (ee - vp) = rr) : ¬ ((ee - vp).toInt64) < (rr.toInt64) := by
  rw [h, Int64.lt_iff_toInt_lt]
  omega
theorem own_accz {f : Nat → Int32} {P : Nat} : ∀ i, (∀ t, t < i → ((f (P + t) &&& (255 : Int32)) &&& (127 : Int32)) = (0 : Int32)) → own_acc f P i = 0
  | 0, _ => rfl
  | i + 1, h => by
    have e := own_accz i (fun t ht => h t (by omega))
    show own_acc f P i ||| (((f (P + i) &&& (255 : Int32)) &&& (127 : Int32)).toInt64 <<< (Int32.ofNat (7 * i) &&& 0x3f).toInt64) = 0
    rw [e, h i (by omega)]
    have z : (0 : Int32).toInt64 = 0 := by decide
    rw [z]
    simp
theorem own_z0 (hK1 : 1 ≤ K) : own_acc (own_cb K) 0 ((K - 1) + 1) = (0 : Int64) := own_accz _ (fun t ht => by
  rw [own_cb]
  split <;> decide)
theorem own_back (rr : Int32) : f8_0 (rr.toInt64) ee vp = rr := by
  show (rr.toInt64).toInt32 = rr
  simp
end Law
theorem pn_0 : plainName "com/example/weftline/weftline/runner/BodyLengthPinLaw" = true := by first | (simp [plainName, overriddenIn]; done) | decide +kernel
theorem ef_0 (m : MethodId) (p0 : Int32) (p1 : Int32) (q2 : Int64) (p3 : Int32) : entryFrame m #[(.int p0), (.int p1), (.long q2), (.int p3)] maxLocals = mkF m 0 #[.val (.int p0), .val (.int p1), .val (.long q2), .second, .val (.int p3), .unset, .unset, .unset, .unset, .unset, .unset, .unset, .unset, .unset, .unset, .unset, .unset, .unset] [] := by first | (simp [entryFrame, mkF, argsToLocals, Value.category, maxLocals]; done) | rfl
theorem pd0_0 : parseMethodDescriptor "(II)B" = some ⟨[.int, .int], some .byte⟩ := by decide +kernel
theorem pd0_1 : parseMethodDescriptor "(C)Ljava/lang/String;" = some ⟨[.char], some (.object "java/lang/String")⟩ := by decide +kernel
theorem pd0_2 : parseMethodDescriptor "([BI)V" = some ⟨[(.array .byte), .int], none⟩ := by decide +kernel
theorem pd0_3 : parseMethodDescriptor "(JLjava/lang/String;)I" = some ⟨[.long, (.object "java/lang/String")], some .int⟩ := by decide +kernel
theorem pd0_4 : parseMethodDescriptor "()Z" = some ⟨[], some .boolean⟩ := by decide +kernel
theorem pd0_5 : parseMethodDescriptor "()J" = some ⟨[], some .long⟩ := by decide +kernel
set_option maxRecDepth 65536 in
set_option maxHeartbeats 40000000 in
theorem rm0 (l : Launch) (Z : State) (a0 : Array Value) (hw : ∀ d ∈ tables_1, d.before a0 Z = true) (ws : List Jvm.Cond) (p0 : Int32) (p1 : Int32) (q2 : Int64) (p3 : Int32) (cs : Int32) (h0 : Heap) (n0 : Nat) (Z0 : n0 ≤ h0.size) (S_0 : Sta Z h0 "java/lang/String" "COMPACT_STRINGS" "Z" (.int cs)) (hcs : ¬ cs = (0 : Int32)) :
    MetFree l x (head1 (Jvm.Cond.code x code maxLocals ret :: ws) room_1) (fun a U => a = #[(.int p0), (.int p1), (.long q2), (.int p3)] ∧ Z.Warmed39 U.vm ∧ U.heap = h0) (fun _ _ _ _ _ => True) (fun _ U o U' => ∃ v L, o = .returned v ∧ (fun v h L => v = some (.int 1) ∧ Fr n0 L) v U'.heap L ∧ FrameEnd U o U' L 16 128) := by
  refine MetFree.of_bodySF (plainFor_of_name pn_0) hisR ?_
  intro p e s m args below meth c s₁ Bd hml0 hP hK
  obtain ⟨rfl, hZ, hh⟩ := hP
  have hx := Bd.exec
  have hby := Bd.bytes
  have hret := Bd.returns
  have hlk := BodyLoose.notSynchronized Bd
  have hml : c.maxLocals = 18 := hml0
  have hown : s.vm.findClass "com/example/weftline/weftline/runner/BodyLengthPinLaw" = some m.cls := findClass_of_methodNamed Bd.named
  have hnm := (name_of_methodNamed Bd.named Bd.method).1
  have X0 : Stand p l e room_1 s m #[(.int p0), (.int p1), (.long q2), (.int p3)] below meth c s₁ [] 0 0 := Stand.of_body Bd
  have e0 : s₁.heap = h0 := by rw [← hh, Bd.state]; rfl
  have N0 := Fr.nil n0
  show own_Ends p e below s 16 128 (fun v h L => v = some (.int 1) ∧ Fr n0 L) (s₁.setTop (entryFrame m #[(.int p0), (.int p1), (.long q2), (.int p3)] maxLocals))
  refine own_cast (ef_0 m p0 p1 q2 p3) ?_
  show own_Ends p e below s _ _ _ (s₁.setTop (mkF m 0 #[.val (.int p0), .val (.int p1), .val (.long q2), .second, .val (.int p3), .unset, .unset, .unset, .unset, .unset, .unset, .unset, .unset, .unset, .unset, .unset, .unset, .unset] []))
  refine own_step (fun t k => XS.iloadN X0.here hx rfl (hb hby at_0) rfl k) ?_
  show own_Ends p e below s _ _ _ (s₁.setTop (mkF m 1 #[.val (.int p0), .val (.int p1), .val (.long q2), .second, .val (.int p3), .unset, .unset, .unset, .unset, .unset, .unset, .unset, .unset, .unset, .unset, .unset, .unset, .unset] [(.int p0)]))
  refine own_step (fun t k => X0.ldcInt hx hown (mvT hZ (hw _ (List.mem_of_getElem? (i := 0) rfl))) (g := (mkF m 1 #[.val (.int p0), .val (.int p1), .val (.long q2), .second, .val (.int p3), .unset, .unset, .unset, .unset, .unset, .unset, .unset, .unset, .unset, .unset, .unset, .unset, .unset] [(.int p0)])) rfl (hb hby at_1) t k) ?_
  show own_Ends p e below s _ _ _ (s₁.setTop (mkF m 3 #[.val (.int p0), .val (.int p1), .val (.long q2), .second, .val (.int p3), .unset, .unset, .unset, .unset, .unset, .unset, .unset, .unset, .unset, .unset, .unset, .unset, .unset] [(.int (2147483647 : Int32)), (.int p0)]))
  refine own_step (fun t k => XS.iand X0.here hx rfl (hb hby at_3) rfl k) ?_
  show own_Ends p e below s _ _ _ (s₁.setTop (mkF m 4 #[.val (.int p0), .val (.int p1), .val (.long q2), .second, .val (.int p3), .unset, .unset, .unset, .unset, .unset, .unset, .unset, .unset, .unset, .unset, .unset, .unset, .unset] [(.int (p0 &&& (2147483647 : Int32)))]))
  refine own_step (fun t k => XS.bipush X0.here hx rfl (hb hby at_4) k) ?_
  show own_Ends p e below s _ _ _ (s₁.setTop (mkF m 6 #[.val (.int p0), .val (.int p1), .val (.long q2), .second, .val (.int p3), .unset, .unset, .unset, .unset, .unset, .unset, .unset, .unset, .unset, .unset, .unset, .unset, .unset] [(.int (9 : Int32)), (.int (p0 &&& (2147483647 : Int32)))]))
  refine own_step (fun t k => iremM X0 hx rfl (hb hby at_6) rfl (by decide) k) ?_
  show own_Ends p e below s _ _ _ (s₁.setTop (mkF m 7 #[.val (.int p0), .val (.int p1), .val (.long q2), .second, .val (.int p3), .unset, .unset, .unset, .unset, .unset, .unset, .unset, .unset, .unset, .unset, .unset, .unset, .unset] [(.int ((p0 &&& (2147483647 : Int32)) % (9 : Int32)))]))
  generalize hz_ee : ((p0 &&& (2147483647 : Int32)) % (9 : Int32)) = ee
  have he := own_e hz_ee
  clear hz_ee
  show own_Ends p e below s _ _ _ (s₁.setTop (mkF m 7 #[.val (.int p0), .val (.int p1), .val (.long q2), .second, .val (.int p3), .unset, .unset, .unset, .unset, .unset, .unset, .unset, .unset, .unset, .unset, .unset, .unset, .unset] [(.int ee)]))
  refine own_step (fun t k => XS.istore X0.here hx rfl (hb hby at_7) rfl (l' := #[.val (.int p0), .val (.int p1), .val (.long q2), .second, .val (.int p3), .val (.int ee), .unset, .unset, .unset, .unset, .unset, .unset, .unset, .unset, .unset, .unset, .unset, .unset]) rfl k) ?_
  show own_Ends p e below s _ _ _ (s₁.setTop (mkF m 9 #[.val (.int p0), .val (.int p1), .val (.long q2), .second, .val (.int p3), .val (.int ee), .unset, .unset, .unset, .unset, .unset, .unset, .unset, .unset, .unset, .unset, .unset, .unset] []))
  refine own_step (fun t k => XS.iloadN X0.here hx rfl (hb hby at_9) rfl k) ?_
  show own_Ends p e below s _ _ _ (s₁.setTop (mkF m 10 #[.val (.int p0), .val (.int p1), .val (.long q2), .second, .val (.int p3), .val (.int ee), .unset, .unset, .unset, .unset, .unset, .unset, .unset, .unset, .unset, .unset, .unset, .unset] [(.int p1)]))
  refine own_step (fun t k => X0.ldcInt hx hown (mvT hZ (hw _ (List.mem_of_getElem? (i := 0) rfl))) (g := (mkF m 10 #[.val (.int p0), .val (.int p1), .val (.long q2), .second, .val (.int p3), .val (.int ee), .unset, .unset, .unset, .unset, .unset, .unset, .unset, .unset, .unset, .unset, .unset, .unset] [(.int p1)])) rfl (hb hby at_10) t k) ?_
  show own_Ends p e below s _ _ _ (s₁.setTop (mkF m 12 #[.val (.int p0), .val (.int p1), .val (.long q2), .second, .val (.int p3), .val (.int ee), .unset, .unset, .unset, .unset, .unset, .unset, .unset, .unset, .unset, .unset, .unset, .unset] [(.int (2147483647 : Int32)), (.int p1)]))
  refine own_step (fun t k => XS.iand X0.here hx rfl (hb hby at_12) rfl k) ?_
  show own_Ends p e below s _ _ _ (s₁.setTop (mkF m 13 #[.val (.int p0), .val (.int p1), .val (.long q2), .second, .val (.int p3), .val (.int ee), .unset, .unset, .unset, .unset, .unset, .unset, .unset, .unset, .unset, .unset, .unset, .unset] [(.int (p1 &&& (2147483647 : Int32)))]))
  refine own_step (fun t k => XS.iload X0.here hx rfl (hb hby at_13) rfl k) ?_
  show own_Ends p e below s _ _ _ (s₁.setTop (mkF m 15 #[.val (.int p0), .val (.int p1), .val (.long q2), .second, .val (.int p3), .val (.int ee), .unset, .unset, .unset, .unset, .unset, .unset, .unset, .unset, .unset, .unset, .unset, .unset] [(.int ee), (.int (p1 &&& (2147483647 : Int32)))]))
  refine own_step (fun t k => XS.iconst X0.here hx rfl (hb hby at_15) k) ?_
  show own_Ends p e below s _ _ _ (s₁.setTop (mkF m 16 #[.val (.int p0), .val (.int p1), .val (.long q2), .second, .val (.int p3), .val (.int ee), .unset, .unset, .unset, .unset, .unset, .unset, .unset, .unset, .unset, .unset, .unset, .unset] [(.int (1 : Int32)), (.int ee), (.int (p1 &&& (2147483647 : Int32)))]))
  refine own_step (fun t k => XS.iadd X0.here hx rfl (hb hby at_16) rfl k) ?_
  show own_Ends p e below s _ _ _ (s₁.setTop (mkF m 17 #[.val (.int p0), .val (.int p1), .val (.long q2), .second, .val (.int p3), .val (.int ee), .unset, .unset, .unset, .unset, .unset, .unset, .unset, .unset, .unset, .unset, .unset, .unset] [(.int (ee + (1 : Int32))), (.int (p1 &&& (2147483647 : Int32)))]))
  refine own_step (fun t k => iremM X0 hx rfl (hb hby at_17) rfl (own_ne1 he) k) ?_
  show own_Ends p e below s _ _ _ (s₁.setTop (mkF m 18 #[.val (.int p0), .val (.int p1), .val (.long q2), .second, .val (.int p3), .val (.int ee), .unset, .unset, .unset, .unset, .unset, .unset, .unset, .unset, .unset, .unset, .unset, .unset] [(.int ((p1 &&& (2147483647 : Int32)) % (ee + (1 : Int32))))]))
  generalize hz_kk : ((p1 &&& (2147483647 : Int32)) % (ee + (1 : Int32))) = kk
  obtain ⟨K, hK, hK8, hKe⟩ := own_kk he hz_kk
  clear hz_kk
  show own_Ends p e below s _ _ _ (s₁.setTop (mkF m 18 #[.val (.int p0), .val (.int p1), .val (.long q2), .second, .val (.int p3), .val (.int ee), .unset, .unset, .unset, .unset, .unset, .unset, .unset, .unset, .unset, .unset, .unset, .unset] [(.int kk)]))
  refine own_step (fun t k => XS.istore X0.here hx rfl (hb hby at_18) rfl (l' := #[.val (.int p0), .val (.int p1), .val (.long q2), .second, .val (.int p3), .val (.int ee), .val (.int kk), .unset, .unset, .unset, .unset, .unset, .unset, .unset, .unset, .unset, .unset, .unset]) rfl k) ?_
  show own_Ends p e below s _ _ _ (s₁.setTop (mkF m 20 #[.val (.int p0), .val (.int p1), .val (.long q2), .second, .val (.int p3), .val (.int ee), .val (.int kk), .unset, .unset, .unset, .unset, .unset, .unset, .unset, .unset, .unset, .unset, .unset] []))
  refine own_step (fun t k => XS.bipush X0.here hx rfl (hb hby at_20) k) ?_
  show own_Ends p e below s _ _ _ (s₁.setTop (mkF m 22 #[.val (.int p0), .val (.int p1), .val (.long q2), .second, .val (.int p3), .val (.int ee), .val (.int kk), .unset, .unset, .unset, .unset, .unset, .unset, .unset, .unset, .unset, .unset, .unset] [(.int (8 : Int32))]))
  obtain ⟨T1, h1, X1, e1, E1, A1, st1⟩ := own_newI X0 hx hZ (hw _ (List.mem_of_getElem? (i := 1) rfl)) e0 (g := (mkF m 22 #[.val (.int p0), .val (.int p1), .val (.long q2), .second, .val (.int p3), .val (.int ee), .val (.int kk), .unset, .unset, .unset, .unset, .unset, .unset, .unset, .unset, .unset, .unset, .unset] [(.int (8 : Int32))])) rfl (hb hby at_22) rfl (N := 8) (by decide) (by decide) (by decide) (by decide) rfl
  obtain ⟨b1, g1⟩ : ∃ z, z = h0.size := ⟨_, rfl⟩
  rw [← g1] at A1 st1
  have gn_b1 : n0 ≤ b1 := Nat.le_trans Z0 (Nat.le_of_eq g1.symm)
  have Z1 : n0 ≤ h1.size := Nat.le_trans Z0 E1.1
  have u2 := (S_0.ext E1)
  refine own_step st1 ?_
  show own_Ends p e below s _ _ _ (T1.setTop (mkF m 24 #[.val (.int p0), .val (.int p1), .val (.long q2), .second, .val (.int p3), .val (.int ee), .val (.int kk), .unset, .unset, .unset, .unset, .unset, .unset, .unset, .unset, .unset, .unset, .unset] [(.ref b1)]))
  refine own_step (fun t k => XS.astore X1.here hx rfl (hb hby at_24) rfl rfl (l' := #[.val (.int p0), .val (.int p1), .val (.long q2), .second, .val (.int p3), .val (.int ee), .val (.int kk), .val (.ref b1), .unset, .unset, .unset, .unset, .unset, .unset, .unset, .unset, .unset, .unset]) rfl k) ?_
  show own_Ends p e below s _ _ _ (T1.setTop (mkF m 26 #[.val (.int p0), .val (.int p1), .val (.long q2), .second, .val (.int p3), .val (.int ee), .val (.int kk), .val (.ref b1), .unset, .unset, .unset, .unset, .unset, .unset, .unset, .unset, .unset, .unset] []))
  refine own_step (fun t k => XS.aload X1.here hx rfl (hb hby at_26) rfl rfl k) ?_
  show own_Ends p e below s _ _ _ (T1.setTop (mkF m 28 #[.val (.int p0), .val (.int p1), .val (.long q2), .second, .val (.int p3), .val (.int ee), .val (.int kk), .val (.ref b1), .unset, .unset, .unset, .unset, .unset, .unset, .unset, .unset, .unset, .unset] [(.ref b1)]))
  refine own_step (fun t k => XS.iconst X1.here hx rfl (hb hby at_28) k) ?_
  show own_Ends p e below s _ _ _ (T1.setTop (mkF m 29 #[.val (.int p0), .val (.int p1), .val (.long q2), .second, .val (.int p3), .val (.int ee), .val (.int kk), .val (.ref b1), .unset, .unset, .unset, .unset, .unset, .unset, .unset, .unset, .unset, .unset] [(.int (0 : Int32)), (.ref b1)]))
  refine own_step (fun t k => XS.iload X1.here hx rfl (hb hby at_29) rfl k) ?_
  show own_Ends p e below s _ _ _ (T1.setTop (mkF m 31 #[.val (.int p0), .val (.int p1), .val (.long q2), .second, .val (.int p3), .val (.int ee), .val (.int kk), .val (.ref b1), .unset, .unset, .unset, .unset, .unset, .unset, .unset, .unset, .unset, .unset] [(.int kk), (.int (0 : Int32)), (.ref b1)]))
  refine own_step (fun t k => XS.iconst X1.here hx rfl (hb hby at_31) k) ?_
  show own_Ends p e below s _ _ _ (T1.setTop (mkF m 32 #[.val (.int p0), .val (.int p1), .val (.long q2), .second, .val (.int p3), .val (.int ee), .val (.int kk), .val (.ref b1), .unset, .unset, .unset, .unset, .unset, .unset, .unset, .unset, .unset, .unset] [(.int (0 : Int32)), (.int kk), (.int (0 : Int32)), (.ref b1)]))
  obtain ⟨_, _, ⟨T3, L3, k3, n3⟩, -, X3, ⟨Lc3, hQ3, l3, y3, z3⟩, st3⟩ := Jvm.LawKit.callS X1 hx (y := (⟨"com/example/weftline/weftline/runner/BodyLengthPinLaw", "cont", "(II)B"⟩ : MethodName)) hown (mvT hZ (hw _ (List.mem_of_getElem? (i := 2) rfl))) (mvT hZ (hw _ (List.mem_of_getElem? (i := 3) rfl))) (mvT hZ (hw _ (List.mem_of_getElem? (i := 4) rfl))) (mvT hZ (hw _ (List.mem_of_getElem? (i := 5) rfl))) (by decide) (backOf (W := 2) (rm1 l Z a0 hw [] kk (0 : Int32)  h1 n0  ) hZ (hw _ (List.mem_of_getElem? (i := 5) rfl)) (hw _ (List.mem_of_getElem? (i := 4) rfl)) (by decide) (by decide)) (g := (mkF m 32 #[.val (.int p0), .val (.int p1), .val (.long q2), .second, .val (.int p3), .val (.int ee), .val (.int kk), .val (.ref b1), .unset, .unset, .unset, .unset, .unset, .unset, .unset, .unset, .unset, .unset] [(.int (0 : Int32)), (.int kk), (.int (0 : Int32)), (.ref b1)])) rfl (by rw [hml]; rfl) (argsL := [(.int kk), (.int (0 : Int32))]) (rest := [(.int (0 : Int32)), (.ref b1)]) (lenOf pd0_0 rfl) rfl (by show 2 * 0 + _ ≤ _; exact Nat.le_of_eq rfl) (hb hby at_32) (fun _ _ => ⟨rfl, e1, (by decide : 1 + 0 ≤ _), (by decide : 8 + 0 ≤ _)⟩)
  dsimp only [Pt.U, Pt.locs, Pt.cells, Pt.slots] at X3 l3 y3 z3 st3 hQ3
  subst l3 y3 z3
  obtain ⟨rfl, N3q, e3⟩ := hQ3
  have N3 := Fr.app N0 N3q
  refine own_step st3 ?_
  obtain ⟨LL4, XL4, NL4⟩ : ∃ LL, Stand p l e room_1 s m #[(.int p0), (.int p1), (.long q2), (.int p3)] below meth c T3 LL 1 8 ∧ Fr n0 LL := ⟨_, X3, N3⟩
  show own_Ends p e below s _ _ _ (T3.setTop (mkF m 35 #[.val (.int p0), .val (.int p1), .val (.long q2), .second, .val (.int p3), .val (.int ee), .val (.int kk), .val (.ref b1), .unset, .unset, .unset, .unset, .unset, .unset, .unset, .unset, .unset, .unset] [(.int (f1_0 kk (0 : Int32))), (.int (0 : Int32)), (.ref b1)]))
  obtain ⟨T5, h5, X5, e5, W5, A5, st5⟩ := own_stB XL4 hx hZ e3 A1 0 (by decide) (by decide) (g := (mkF m 35 #[.val (.int p0), .val (.int p1), .val (.long q2), .second, .val (.int p3), .val (.int ee), .val (.int kk), .val (.ref b1), .unset, .unset, .unset, .unset, .unset, .unset, .unset, .unset, .unset, .unset] [(.int (f1_0 kk (0 : Int32))), (.int (0 : Int32)), (.ref b1)])) rfl rfl (hb hby at_35)
  refine own_step st5 ?_
  have N5 := Fr.snoc X5 NL4 gn_b1
  have Z5 : n0 ≤ h5.size := by rw [W5.size]; exact Z1
  have u6 := (u2.wr W5)
  obtain ⟨LL7, XL7, NL7⟩ : ∃ LL, Stand p l e room_1 s m #[(.int p0), (.int p1), (.long q2), (.int p3)] below meth c T5 LL 1 8 ∧ Fr n0 LL := ⟨_, X5, N5⟩
  show own_Ends p e below s _ _ _ (T5.setTop (mkF m 36 #[.val (.int p0), .val (.int p1), .val (.long q2), .second, .val (.int p3), .val (.int ee), .val (.int kk), .val (.ref b1), .unset, .unset, .unset, .unset, .unset, .unset, .unset, .unset, .unset, .unset] []))
  refine own_step (fun t k => XS.aload XL7.here hx rfl (hb hby at_36) rfl rfl k) ?_
  show own_Ends p e below s _ _ _ (T5.setTop (mkF m 38 #[.val (.int p0), .val (.int p1), .val (.long q2), .second, .val (.int p3), .val (.int ee), .val (.int kk), .val (.ref b1), .unset, .unset, .unset, .unset, .unset, .unset, .unset, .unset, .unset, .unset] [(.ref b1)]))
  refine own_step (fun t k => XS.iconst XL7.here hx rfl (hb hby at_38) k) ?_
  show own_Ends p e below s _ _ _ (T5.setTop (mkF m 39 #[.val (.int p0), .val (.int p1), .val (.long q2), .second, .val (.int p3), .val (.int ee), .val (.int kk), .val (.ref b1), .unset, .unset, .unset, .unset, .unset, .unset, .unset, .unset, .unset, .unset] [(.int (1 : Int32)), (.ref b1)]))
  refine own_step (fun t k => XS.iload XL7.here hx rfl (hb hby at_39) rfl k) ?_
  show own_Ends p e below s _ _ _ (T5.setTop (mkF m 41 #[.val (.int p0), .val (.int p1), .val (.long q2), .second, .val (.int p3), .val (.int ee), .val (.int kk), .val (.ref b1), .unset, .unset, .unset, .unset, .unset, .unset, .unset, .unset, .unset, .unset] [(.int kk), (.int (1 : Int32)), (.ref b1)]))
  refine own_step (fun t k => XS.iconst XL7.here hx rfl (hb hby at_41) k) ?_
  show own_Ends p e below s _ _ _ (T5.setTop (mkF m 42 #[.val (.int p0), .val (.int p1), .val (.long q2), .second, .val (.int p3), .val (.int ee), .val (.int kk), .val (.ref b1), .unset, .unset, .unset, .unset, .unset, .unset, .unset, .unset, .unset, .unset] [(.int (1 : Int32)), (.int kk), (.int (1 : Int32)), (.ref b1)]))
  obtain ⟨_, _, ⟨T8, L8, k8, n8⟩, -, X8, ⟨Lc8, hQ8, l8, y8, z8⟩, st8⟩ := Jvm.LawKit.callS XL7 hx (y := (⟨"com/example/weftline/weftline/runner/BodyLengthPinLaw", "cont", "(II)B"⟩ : MethodName)) hown (mvT hZ (hw _ (List.mem_of_getElem? (i := 2) rfl))) (mvT hZ (hw _ (List.mem_of_getElem? (i := 3) rfl))) (mvT hZ (hw _ (List.mem_of_getElem? (i := 4) rfl))) (mvT hZ (hw _ (List.mem_of_getElem? (i := 5) rfl))) (by decide) (backOf (W := 2) (rm1 l Z a0 hw [] kk (1 : Int32)  h5 n0  ) hZ (hw _ (List.mem_of_getElem? (i := 5) rfl)) (hw _ (List.mem_of_getElem? (i := 4) rfl)) (by decide) (by decide)) (g := (mkF m 42 #[.val (.int p0), .val (.int p1), .val (.long q2), .second, .val (.int p3), .val (.int ee), .val (.int kk), .val (.ref b1), .unset, .unset, .unset, .unset, .unset, .unset, .unset, .unset, .unset, .unset] [(.int (1 : Int32)), (.int kk), (.int (1 : Int32)), (.ref b1)])) rfl (by rw [hml]; rfl) (argsL := [(.int kk), (.int (1 : Int32))]) (rest := [(.int (1 : Int32)), (.ref b1)]) (lenOf pd0_0 rfl) rfl (by show 2 * 0 + _ ≤ _; exact Nat.le_of_eq rfl) (hb hby at_42) (fun _ _ => ⟨rfl, e5, (by decide : 1 + 0 ≤ _), (by decide : 8 + 0 ≤ _)⟩)
  dsimp only [Pt.U, Pt.locs, Pt.cells, Pt.slots] at X8 l8 y8 z8 st8 hQ8
  subst l8 y8 z8
  obtain ⟨rfl, N8q, e8⟩ := hQ8
  have N8 := Fr.app NL7 N8q
  refine own_step st8 ?_
  obtain ⟨LL9, XL9, NL9⟩ : ∃ LL, Stand p l e room_1 s m #[(.int p0), (.int p1), (.long q2), (.int p3)] below meth c T8 LL 1 8 ∧ Fr n0 LL := ⟨_, X8, N8⟩
  show own_Ends p e below s _ _ _ (T8.setTop (mkF m 45 #[.val (.int p0), .val (.int p1), .val (.long q2), .second, .val (.int p3), .val (.int ee), .val (.int kk), .val (.ref b1), .unset, .unset, .unset, .unset, .unset, .unset, .unset, .unset, .unset, .unset] [(.int (f1_0 kk (1 : Int32))), (.int (1 : Int32)), (.ref b1)]))
  obtain ⟨T10, h10, X10, e10, W10, A10, st10⟩ := own_stB XL9 hx hZ e8 A5 1 (by decide) (by decide) (g := (mkF m 45 #[.val (.int p0), .val (.int p1), .val (.long q2), .second, .val (.int p3), .val (.int ee), .val (.int kk), .val (.ref b1), .unset, .unset, .unset, .unset, .unset, .unset, .unset, .unset, .unset, .unset] [(.int (f1_0 kk (1 : Int32))), (.int (1 : Int32)), (.ref b1)])) rfl rfl (hb hby at_45)
  refine own_step st10 ?_
  have N10 := Fr.snoc X10 NL9 gn_b1
  have Z10 : n0 ≤ h10.size := by rw [W10.size]; exact Z5
  have u11 := (u6.wr W10)
  obtain ⟨LL12, XL12, NL12⟩ : ∃ LL, Stand p l e room_1 s m #[(.int p0), (.int p1), (.long q2), (.int p3)] below meth c T10 LL 1 8 ∧ Fr n0 LL := ⟨_, X10, N10⟩
  show own_Ends p e below s _ _ _ (T10.setTop (mkF m 46 #[.val (.int p0), .val (.int p1), .val (.long q2), .second, .val (.int p3), .val (.int ee), .val (.int kk), .val (.ref b1), .unset, .unset, .unset, .unset, .unset, .unset, .unset, .unset, .unset, .unset] []))
  refine own_step (fun t k => XS.aload XL12.here hx rfl (hb hby at_46) rfl rfl k) ?_
  show own_Ends p e below s _ _ _ (T10.setTop (mkF m 48 #[.val (.int p0), .val (.int p1), .val (.long q2), .second, .val (.int p3), .val (.int ee), .val (.int kk), .val (.ref b1), .unset, .unset, .unset, .unset, .unset, .unset, .unset, .unset, .unset, .unset] [(.ref b1)]))
  refine own_step (fun t k => XS.iconst XL12.here hx rfl (hb hby at_48) k) ?_
  show own_Ends p e below s _ _ _ (T10.setTop (mkF m 49 #[.val (.int p0), .val (.int p1), .val (.long q2), .second, .val (.int p3), .val (.int ee), .val (.int kk), .val (.ref b1), .unset, .unset, .unset, .unset, .unset, .unset, .unset, .unset, .unset, .unset] [(.int (2 : Int32)), (.ref b1)]))
  refine own_step (fun t k => XS.iload XL12.here hx rfl (hb hby at_49) rfl k) ?_
  show own_Ends p e below s _ _ _ (T10.setTop (mkF m 51 #[.val (.int p0), .val (.int p1), .val (.long q2), .second, .val (.int p3), .val (.int ee), .val (.int kk), .val (.ref b1), .unset, .unset, .unset, .unset, .unset, .unset, .unset, .unset, .unset, .unset] [(.int kk), (.int (2 : Int32)), (.ref b1)]))
  refine own_step (fun t k => XS.iconst XL12.here hx rfl (hb hby at_51) k) ?_
  show own_Ends p e below s _ _ _ (T10.setTop (mkF m 52 #[.val (.int p0), .val (.int p1), .val (.long q2), .second, .val (.int p3), .val (.int ee), .val (.int kk), .val (.ref b1), .unset, .unset, .unset, .unset, .unset, .unset, .unset, .unset, .unset, .unset] [(.int (2 : Int32)), (.int kk), (.int (2 : Int32)), (.ref b1)]))
  obtain ⟨_, _, ⟨T13, L13, k13, n13⟩, -, X13, ⟨Lc13, hQ13, l13, y13, z13⟩, st13⟩ := Jvm.LawKit.callS XL12 hx (y := (⟨"com/example/weftline/weftline/runner/BodyLengthPinLaw", "cont", "(II)B"⟩ : MethodName)) hown (mvT hZ (hw _ (List.mem_of_getElem? (i := 2) rfl))) (mvT hZ (hw _ (List.mem_of_getElem? (i := 3) rfl))) (mvT hZ (hw _ (List.mem_of_getElem? (i := 4) rfl))) (mvT hZ (hw _ (List.mem_of_getElem? (i := 5) rfl))) (by decide) (backOf (W := 2) (rm1 l Z a0 hw [] kk (2 : Int32)  h10 n0  ) hZ (hw _ (List.mem_of_getElem? (i := 5) rfl)) (hw _ (List.mem_of_getElem? (i := 4) rfl)) (by decide) (by decide)) (g := (mkF m 52 #[.val (.int p0), .val (.int p1), .val (.long q2), .second, .val (.int p3), .val (.int ee), .val (.int kk), .val (.ref b1), .unset, .unset, .unset, .unset, .unset, .unset, .unset, .unset, .unset, .unset] [(.int (2 : Int32)), (.int kk), (.int (2 : Int32)), (.ref b1)])) rfl (by rw [hml]; rfl) (argsL := [(.int kk), (.int (2 : Int32))]) (rest := [(.int (2 : Int32)), (.ref b1)]) (lenOf pd0_0 rfl) rfl (by show 2 * 0 + _ ≤ _; exact Nat.le_of_eq rfl) (hb hby at_52) (fun _ _ => ⟨rfl, e10, (by decide : 1 + 0 ≤ _), (by decide : 8 + 0 ≤ _)⟩)
  dsimp only [Pt.U, Pt.locs, Pt.cells, Pt.slots] at X13 l13 y13 z13 st13 hQ13
  subst l13 y13 z13
  obtain ⟨rfl, N13q, e13⟩ := hQ13
  have N13 := Fr.app NL12 N13q
  refine own_step st13 ?_
  obtain ⟨LL14, XL14, NL14⟩ : ∃ LL, Stand p l e room_1 s m #[(.int p0), (.int p1), (.long q2), (.int p3)] below meth c T13 LL 1 8 ∧ Fr n0 LL := ⟨_, X13, N13⟩
  show own_Ends p e below s _ _ _ (T13.setTop (mkF m 55 #[.val (.int p0), .val (.int p1), .val (.long q2), .second, .val (.int p3), .val (.int ee), .val (.int kk), .val (.ref b1), .unset, .unset, .unset, .unset, .unset, .unset, .unset, .unset, .unset, .unset] [(.int (f1_0 kk (2 : Int32))), (.int (2 : Int32)), (.ref b1)]))
  obtain ⟨T15, h15, X15, e15, W15, A15, st15⟩ := own_stB XL14 hx hZ e13 A10 2 (by decide) (by decide) (g := (mkF m 55 #[.val (.int p0), .val (.int p1), .val (.long q2), .second, .val (.int p3), .val (.int ee), .val (.int kk), .val (.ref b1), .unset, .unset, .unset, .unset, .unset, .unset, .unset, .unset, .unset, .unset] [(.int (f1_0 kk (2 : Int32))), (.int (2 : Int32)), (.ref b1)])) rfl rfl (hb hby at_55)
  refine own_step st15 ?_
  have N15 := Fr.snoc X15 NL14 gn_b1
  have Z15 : n0 ≤ h15.size := by rw [W15.size]; exact Z10
  have u16 := (u11.wr W15)
  obtain ⟨LL17, XL17, NL17⟩ : ∃ LL, Stand p l e room_1 s m #[(.int p0), (.int p1), (.long q2), (.int p3)] below meth c T15 LL 1 8 ∧ Fr n0 LL := ⟨_, X15, N15⟩
  show own_Ends p e below s _ _ _ (T15.setTop (mkF m 56 #[.val (.int p0), .val (.int p1), .val (.long q2), .second, .val (.int p3), .val (.int ee), .val (.int kk), .val (.ref b1), .unset, .unset, .unset, .unset, .unset, .unset, .unset, .unset, .unset, .unset] []))
  refine own_step (fun t k => XS.aload XL17.here hx rfl (hb hby at_56) rfl rfl k) ?_
  show own_Ends p e below s _ _ _ (T15.setTop (mkF m 58 #[.val (.int p0), .val (.int p1), .val (.long q2), .second, .val (.int p3), .val (.int ee), .val (.int kk), .val (.ref b1), .unset, .unset, .unset, .unset, .unset, .unset, .unset, .unset, .unset, .unset] [(.ref b1)]))
  refine own_step (fun t k => XS.iconst XL17.here hx rfl (hb hby at_58) k) ?_
  show own_Ends p e below s _ _ _ (T15.setTop (mkF m 59 #[.val (.int p0), .val (.int p1), .val (.long q2), .second, .val (.int p3), .val (.int ee), .val (.int kk), .val (.ref b1), .unset, .unset, .unset, .unset, .unset, .unset, .unset, .unset, .unset, .unset] [(.int (3 : Int32)), (.ref b1)]))
  refine own_step (fun t k => XS.iload XL17.here hx rfl (hb hby at_59) rfl k) ?_
  show own_Ends p e below s _ _ _ (T15.setTop (mkF m 61 #[.val (.int p0), .val (.int p1), .val (.long q2), .second, .val (.int p3), .val (.int ee), .val (.int kk), .val (.ref b1), .unset, .unset, .unset, .unset, .unset, .unset, .unset, .unset, .unset, .unset] [(.int kk), (.int (3 : Int32)), (.ref b1)]))
  refine own_step (fun t k => XS.iconst XL17.here hx rfl (hb hby at_61) k) ?_
  show own_Ends p e below s _ _ _ (T15.setTop (mkF m 62 #[.val (.int p0), .val (.int p1), .val (.long q2), .second, .val (.int p3), .val (.int ee), .val (.int kk), .val (.ref b1), .unset, .unset, .unset, .unset, .unset, .unset, .unset, .unset, .unset, .unset] [(.int (3 : Int32)), (.int kk), (.int (3 : Int32)), (.ref b1)]))
  obtain ⟨_, _, ⟨T18, L18, k18, n18⟩, -, X18, ⟨Lc18, hQ18, l18, y18, z18⟩, st18⟩ := Jvm.LawKit.callS XL17 hx (y := (⟨"com/example/weftline/weftline/runner/BodyLengthPinLaw", "cont", "(II)B"⟩ : MethodName)) hown (mvT hZ (hw _ (List.mem_of_getElem? (i := 2) rfl))) (mvT hZ (hw _ (List.mem_of_getElem? (i := 3) rfl))) (mvT hZ (hw _ (List.mem_of_getElem? (i := 4) rfl))) (mvT hZ (hw _ (List.mem_of_getElem? (i := 5) rfl))) (by decide) (backOf (W := 2) (rm1 l Z a0 hw [] kk (3 : Int32)  h15 n0  ) hZ (hw _ (List.mem_of_getElem? (i := 5) rfl)) (hw _ (List.mem_of_getElem? (i := 4) rfl)) (by decide) (by decide)) (g := (mkF m 62 #[.val (.int p0), .val (.int p1), .val (.long q2), .second, .val (.int p3), .val (.int ee), .val (.int kk), .val (.ref b1), .unset, .unset, .unset, .unset, .unset, .unset, .unset, .unset, .unset, .unset] [(.int (3 : Int32)), (.int kk), (.int (3 : Int32)), (.ref b1)])) rfl (by rw [hml]; rfl) (argsL := [(.int kk), (.int (3 : Int32))]) (rest := [(.int (3 : Int32)), (.ref b1)]) (lenOf pd0_0 rfl) rfl (by show 2 * 0 + _ ≤ _; exact Nat.le_of_eq rfl) (hb hby at_62) (fun _ _ => ⟨rfl, e15, (by decide : 1 + 0 ≤ _), (by decide : 8 + 0 ≤ _)⟩)
  dsimp only [Pt.U, Pt.locs, Pt.cells, Pt.slots] at X18 l18 y18 z18 st18 hQ18
  subst l18 y18 z18
  obtain ⟨rfl, N18q, e18⟩ := hQ18
  have N18 := Fr.app NL17 N18q
  refine own_step st18 ?_
  obtain ⟨LL19, XL19, NL19⟩ : ∃ LL, Stand p l e room_1 s m #[(.int p0), (.int p1), (.long q2), (.int p3)] below meth c T18 LL 1 8 ∧ Fr n0 LL := ⟨_, X18, N18⟩
  show own_Ends p e below s _ _ _ (T18.setTop (mkF m 65 #[.val (.int p0), .val (.int p1), .val (.long q2), .second, .val (.int p3), .val (.int ee), .val (.int kk), .val (.ref b1), .unset, .unset, .unset, .unset, .unset, .unset, .unset, .unset, .unset, .unset] [(.int (f1_0 kk (3 : Int32))), (.int (3 : Int32)), (.ref b1)]))
  obtain ⟨T20, h20, X20, e20, W20, A20, st20⟩ := own_stB XL19 hx hZ e18 A15 3 (by decide) (by decide) (g := (mkF m 65 #[.val (.int p0), .val (.int p1), .val (.long q2), .second, .val (.int p3), .val (.int ee), .val (.int kk), .val (.ref b1), .unset, .unset, .unset, .unset, .unset, .unset, .unset, .unset, .unset, .unset] [(.int (f1_0 kk (3 : Int32))), (.int (3 : Int32)), (.ref b1)])) rfl rfl (hb hby at_65)
  refine own_step st20 ?_
  have N20 := Fr.snoc X20 NL19 gn_b1
  have Z20 : n0 ≤ h20.size := by rw [W20.size]; exact Z15
  have u21 := (u16.wr W20)
  obtain ⟨LL22, XL22, NL22⟩ : ∃ LL, Stand p l e room_1 s m #[(.int p0), (.int p1), (.long q2), (.int p3)] below meth c T20 LL 1 8 ∧ Fr n0 LL := ⟨_, X20, N20⟩
  show own_Ends p e below s _ _ _ (T20.setTop (mkF m 66 #[.val (.int p0), .val (.int p1), .val (.long q2), .second, .val (.int p3), .val (.int ee), .val (.int kk), .val (.ref b1), .unset, .unset, .unset, .unset, .unset, .unset, .unset, .unset, .unset, .unset] []))
  refine own_step (fun t k => XS.aload XL22.here hx rfl (hb hby at_66) rfl rfl k) ?_
  show own_Ends p e below s _ _ _ (T20.setTop (mkF m 68 #[.val (.int p0), .val (.int p1), .val (.long q2), .second, .val (.int p3), .val (.int ee), .val (.int kk), .val (.ref b1), .unset, .unset, .unset, .unset, .unset, .unset, .unset, .unset, .unset, .unset] [(.ref b1)]))
  refine own_step (fun t k => XS.iconst XL22.here hx rfl (hb hby at_68) k) ?_
  show own_Ends p e below s _ _ _ (T20.setTop (mkF m 69 #[.val (.int p0), .val (.int p1), .val (.long q2), .second, .val (.int p3), .val (.int ee), .val (.int kk), .val (.ref b1), .unset, .unset, .unset, .unset, .unset, .unset, .unset, .unset, .unset, .unset] [(.int (4 : Int32)), (.ref b1)]))
  refine own_step (fun t k => XS.iload XL22.here hx rfl (hb hby at_69) rfl k) ?_
  show own_Ends p e below s _ _ _ (T20.setTop (mkF m 71 #[.val (.int p0), .val (.int p1), .val (.long q2), .second, .val (.int p3), .val (.int ee), .val (.int kk), .val (.ref b1), .unset, .unset, .unset, .unset, .unset, .unset, .unset, .unset, .unset, .unset] [(.int kk), (.int (4 : Int32)), (.ref b1)]))
  refine own_step (fun t k => XS.iconst XL22.here hx rfl (hb hby at_71) k) ?_
  show own_Ends p e below s _ _ _ (T20.setTop (mkF m 72 #[.val (.int p0), .val (.int p1), .val (.long q2), .second, .val (.int p3), .val (.int ee), .val (.int kk), .val (.ref b1), .unset, .unset, .unset, .unset, .unset, .unset, .unset, .unset, .unset, .unset] [(.int (4 : Int32)), (.int kk), (.int (4 : Int32)), (.ref b1)]))
  obtain ⟨_, _, ⟨T23, L23, k23, n23⟩, -, X23, ⟨Lc23, hQ23, l23, y23, z23⟩, st23⟩ := Jvm.LawKit.callS XL22 hx (y := (⟨"com/example/weftline/weftline/runner/BodyLengthPinLaw", "cont", "(II)B"⟩ : MethodName)) hown (mvT hZ (hw _ (List.mem_of_getElem? (i := 2) rfl))) (mvT hZ (hw _ (List.mem_of_getElem? (i := 3) rfl))) (mvT hZ (hw _ (List.mem_of_getElem? (i := 4) rfl))) (mvT hZ (hw _ (List.mem_of_getElem? (i := 5) rfl))) (by decide) (backOf (W := 2) (rm1 l Z a0 hw [] kk (4 : Int32)  h20 n0  ) hZ (hw _ (List.mem_of_getElem? (i := 5) rfl)) (hw _ (List.mem_of_getElem? (i := 4) rfl)) (by decide) (by decide)) (g := (mkF m 72 #[.val (.int p0), .val (.int p1), .val (.long q2), .second, .val (.int p3), .val (.int ee), .val (.int kk), .val (.ref b1), .unset, .unset, .unset, .unset, .unset, .unset, .unset, .unset, .unset, .unset] [(.int (4 : Int32)), (.int kk), (.int (4 : Int32)), (.ref b1)])) rfl (by rw [hml]; rfl) (argsL := [(.int kk), (.int (4 : Int32))]) (rest := [(.int (4 : Int32)), (.ref b1)]) (lenOf pd0_0 rfl) rfl (by show 2 * 0 + _ ≤ _; exact Nat.le_of_eq rfl) (hb hby at_72) (fun _ _ => ⟨rfl, e20, (by decide : 1 + 0 ≤ _), (by decide : 8 + 0 ≤ _)⟩)
  dsimp only [Pt.U, Pt.locs, Pt.cells, Pt.slots] at X23 l23 y23 z23 st23 hQ23
  subst l23 y23 z23
  obtain ⟨rfl, N23q, e23⟩ := hQ23
  have N23 := Fr.app NL22 N23q
  refine own_step st23 ?_
  obtain ⟨LL24, XL24, NL24⟩ : ∃ LL, Stand p l e room_1 s m #[(.int p0), (.int p1), (.long q2), (.int p3)] below meth c T23 LL 1 8 ∧ Fr n0 LL := ⟨_, X23, N23⟩
  show own_Ends p e below s _ _ _ (T23.setTop (mkF m 75 #[.val (.int p0), .val (.int p1), .val (.long q2), .second, .val (.int p3), .val (.int ee), .val (.int kk), .val (.ref b1), .unset, .unset, .unset, .unset, .unset, .unset, .unset, .unset, .unset, .unset] [(.int (f1_0 kk (4 : Int32))), (.int (4 : Int32)), (.ref b1)]))
  obtain ⟨T25, h25, X25, e25, W25, A25, st25⟩ := own_stB XL24 hx hZ e23 A20 4 (by decide) (by decide) (g := (mkF m 75 #[.val (.int p0), .val (.int p1), .val (.long q2), .second, .val (.int p3), .val (.int ee), .val (.int kk), .val (.ref b1), .unset, .unset, .unset, .unset, .unset, .unset, .unset, .unset, .unset, .unset] [(.int (f1_0 kk (4 : Int32))), (.int (4 : Int32)), (.ref b1)])) rfl rfl (hb hby at_75)
  refine own_step st25 ?_
  have N25 := Fr.snoc X25 NL24 gn_b1
  have Z25 : n0 ≤ h25.size := by rw [W25.size]; exact Z20
  have u26 := (u21.wr W25)
  obtain ⟨LL27, XL27, NL27⟩ : ∃ LL, Stand p l e room_1 s m #[(.int p0), (.int p1), (.long q2), (.int p3)] below meth c T25 LL 1 8 ∧ Fr n0 LL := ⟨_, X25, N25⟩
  show own_Ends p e below s _ _ _ (T25.setTop (mkF m 76 #[.val (.int p0), .val (.int p1), .val (.long q2), .second, .val (.int p3), .val (.int ee), .val (.int kk), .val (.ref b1), .unset, .unset, .unset, .unset, .unset, .unset, .unset, .unset, .unset, .unset] []))
  refine own_step (fun t k => XS.aload XL27.here hx rfl (hb hby at_76) rfl rfl k) ?_
  show own_Ends p e below s _ _ _ (T25.setTop (mkF m 78 #[.val (.int p0), .val (.int p1), .val (.long q2), .second, .val (.int p3), .val (.int ee), .val (.int kk), .val (.ref b1), .unset, .unset, .unset, .unset, .unset, .unset, .unset, .unset, .unset, .unset] [(.ref b1)]))
  refine own_step (fun t k => XS.iconst XL27.here hx rfl (hb hby at_78) k) ?_
  show own_Ends p e below s _ _ _ (T25.setTop (mkF m 79 #[.val (.int p0), .val (.int p1), .val (.long q2), .second, .val (.int p3), .val (.int ee), .val (.int kk), .val (.ref b1), .unset, .unset, .unset, .unset, .unset, .unset, .unset, .unset, .unset, .unset] [(.int (5 : Int32)), (.ref b1)]))
  refine own_step (fun t k => XS.iload XL27.here hx rfl (hb hby at_79) rfl k) ?_
  show own_Ends p e below s _ _ _ (T25.setTop (mkF m 81 #[.val (.int p0), .val (.int p1), .val (.long q2), .second, .val (.int p3), .val (.int ee), .val (.int kk), .val (.ref b1), .unset, .unset, .unset, .unset, .unset, .unset, .unset, .unset, .unset, .unset] [(.int kk), (.int (5 : Int32)), (.ref b1)]))
  refine own_step (fun t k => XS.iconst XL27.here hx rfl (hb hby at_81) k) ?_
  show own_Ends p e below s _ _ _ (T25.setTop (mkF m 82 #[.val (.int p0), .val (.int p1), .val (.long q2), .second, .val (.int p3), .val (.int ee), .val (.int kk), .val (.ref b1), .unset, .unset, .unset, .unset, .unset, .unset, .unset, .unset, .unset, .unset] [(.int (5 : Int32)), (.int kk), (.int (5 : Int32)), (.ref b1)]))
  obtain ⟨_, _, ⟨T28, L28, k28, n28⟩, -, X28, ⟨Lc28, hQ28, l28, y28, z28⟩, st28⟩ := Jvm.LawKit.callS XL27 hx (y := (⟨"com/example/weftline/weftline/runner/BodyLengthPinLaw", "cont", "(II)B"⟩ : MethodName)) hown (mvT hZ (hw _ (List.mem_of_getElem? (i := 2) rfl))) (mvT hZ (hw _ (List.mem_of_getElem? (i := 3) rfl))) (mvT hZ (hw _ (List.mem_of_getElem? (i := 4) rfl))) (mvT hZ (hw _ (List.mem_of_getElem? (i := 5) rfl))) (by decide) (backOf (W := 2) (rm1 l Z a0 hw [] kk (5 : Int32)  h25 n0  ) hZ (hw _ (List.mem_of_getElem? (i := 5) rfl)) (hw _ (List.mem_of_getElem? (i := 4) rfl)) (by decide) (by decide)) (g := (mkF m 82 #[.val (.int p0), .val (.int p1), .val (.long q2), .second, .val (.int p3), .val (.int ee), .val (.int kk), .val (.ref b1), .unset, .unset, .unset, .unset, .unset, .unset, .unset, .unset, .unset, .unset] [(.int (5 : Int32)), (.int kk), (.int (5 : Int32)), (.ref b1)])) rfl (by rw [hml]; rfl) (argsL := [(.int kk), (.int (5 : Int32))]) (rest := [(.int (5 : Int32)), (.ref b1)]) (lenOf pd0_0 rfl) rfl (by show 2 * 0 + _ ≤ _; exact Nat.le_of_eq rfl) (hb hby at_82) (fun _ _ => ⟨rfl, e25, (by decide : 1 + 0 ≤ _), (by decide : 8 + 0 ≤ _)⟩)
  dsimp only [Pt.U, Pt.locs, Pt.cells, Pt.slots] at X28 l28 y28 z28 st28 hQ28
  subst l28 y28 z28
  obtain ⟨rfl, N28q, e28⟩ := hQ28
  have N28 := Fr.app NL27 N28q
  refine own_step st28 ?_
  obtain ⟨LL29, XL29, NL29⟩ : ∃ LL, Stand p l e room_1 s m #[(.int p0), (.int p1), (.long q2), (.int p3)] below meth c T28 LL 1 8 ∧ Fr n0 LL := ⟨_, X28, N28⟩
  show own_Ends p e below s _ _ _ (T28.setTop (mkF m 85 #[.val (.int p0), .val (.int p1), .val (.long q2), .second, .val (.int p3), .val (.int ee), .val (.int kk), .val (.ref b1), .unset, .unset, .unset, .unset, .unset, .unset, .unset, .unset, .unset, .unset] [(.int (f1_0 kk (5 : Int32))), (.int (5 : Int32)), (.ref b1)]))
  obtain ⟨T30, h30, X30, e30, W30, A30, st30⟩ := own_stB XL29 hx hZ e28 A25 5 (by decide) (by decide) (g := (mkF m 85 #[.val (.int p0), .val (.int p1), .val (.long q2), .second, .val (.int p3), .val (.int ee), .val (.int kk), .val (.ref b1), .unset, .unset, .unset, .unset, .unset, .unset, .unset, .unset, .unset, .unset] [(.int (f1_0 kk (5 : Int32))), (.int (5 : Int32)), (.ref b1)])) rfl rfl (hb hby at_85)
  refine own_step st30 ?_
  have N30 := Fr.snoc X30 NL29 gn_b1
  have Z30 : n0 ≤ h30.size := by rw [W30.size]; exact Z25
  have u31 := (u26.wr W30)
  obtain ⟨LL32, XL32, NL32⟩ : ∃ LL, Stand p l e room_1 s m #[(.int p0), (.int p1), (.long q2), (.int p3)] below meth c T30 LL 1 8 ∧ Fr n0 LL := ⟨_, X30, N30⟩
  show own_Ends p e below s _ _ _ (T30.setTop (mkF m 86 #[.val (.int p0), .val (.int p1), .val (.long q2), .second, .val (.int p3), .val (.int ee), .val (.int kk), .val (.ref b1), .unset, .unset, .unset, .unset, .unset, .unset, .unset, .unset, .unset, .unset] []))
  refine own_step (fun t k => XS.aload XL32.here hx rfl (hb hby at_86) rfl rfl k) ?_
  show own_Ends p e below s _ _ _ (T30.setTop (mkF m 88 #[.val (.int p0), .val (.int p1), .val (.long q2), .second, .val (.int p3), .val (.int ee), .val (.int kk), .val (.ref b1), .unset, .unset, .unset, .unset, .unset, .unset, .unset, .unset, .unset, .unset] [(.ref b1)]))
  refine own_step (fun t k => XS.bipush XL32.here hx rfl (hb hby at_88) k) ?_
  show own_Ends p e below s _ _ _ (T30.setTop (mkF m 90 #[.val (.int p0), .val (.int p1), .val (.long q2), .second, .val (.int p3), .val (.int ee), .val (.int kk), .val (.ref b1), .unset, .unset, .unset, .unset, .unset, .unset, .unset, .unset, .unset, .unset] [(.int (6 : Int32)), (.ref b1)]))
  refine own_step (fun t k => XS.iload XL32.here hx rfl (hb hby at_90) rfl k) ?_
  show own_Ends p e below s _ _ _ (T30.setTop (mkF m 92 #[.val (.int p0), .val (.int p1), .val (.long q2), .second, .val (.int p3), .val (.int ee), .val (.int kk), .val (.ref b1), .unset, .unset, .unset, .unset, .unset, .unset, .unset, .unset, .unset, .unset] [(.int kk), (.int (6 : Int32)), (.ref b1)]))
  refine own_step (fun t k => XS.bipush XL32.here hx rfl (hb hby at_92) k) ?_
  show own_Ends p e below s _ _ _ (T30.setTop (mkF m 94 #[.val (.int p0), .val (.int p1), .val (.long q2), .second, .val (.int p3), .val (.int ee), .val (.int kk), .val (.ref b1), .unset, .unset, .unset, .unset, .unset, .unset, .unset, .unset, .unset, .unset] [(.int (6 : Int32)), (.int kk), (.int (6 : Int32)), (.ref b1)]))
  obtain ⟨_, _, ⟨T33, L33, k33, n33⟩, -, X33, ⟨Lc33, hQ33, l33, y33, z33⟩, st33⟩ := Jvm.LawKit.callS XL32 hx (y := (⟨"com/example/weftline/weftline/runner/BodyLengthPinLaw", "cont", "(II)B"⟩ : MethodName)) hown (mvT hZ (hw _ (List.mem_of_getElem? (i := 2) rfl))) (mvT hZ (hw _ (List.mem_of_getElem? (i := 3) rfl))) (mvT hZ (hw _ (List.mem_of_getElem? (i := 4) rfl))) (mvT hZ (hw _ (List.mem_of_getElem? (i := 5) rfl))) (by decide) (backOf (W := 2) (rm1 l Z a0 hw [] kk (6 : Int32)  h30 n0  ) hZ (hw _ (List.mem_of_getElem? (i := 5) rfl)) (hw _ (List.mem_of_getElem? (i := 4) rfl)) (by decide) (by decide)) (g := (mkF m 94 #[.val (.int p0), .val (.int p1), .val (.long q2), .second, .val (.int p3), .val (.int ee), .val (.int kk), .val (.ref b1), .unset, .unset, .unset, .unset, .unset, .unset, .unset, .unset, .unset, .unset] [(.int (6 : Int32)), (.int kk), (.int (6 : Int32)), (.ref b1)])) rfl (by rw [hml]; rfl) (argsL := [(.int kk), (.int (6 : Int32))]) (rest := [(.int (6 : Int32)), (.ref b1)]) (lenOf pd0_0 rfl) rfl (by show 2 * 0 + _ ≤ _; exact Nat.le_of_eq rfl) (hb hby at_94) (fun _ _ => ⟨rfl, e30, (by decide : 1 + 0 ≤ _), (by decide : 8 + 0 ≤ _)⟩)
  dsimp only [Pt.U, Pt.locs, Pt.cells, Pt.slots] at X33 l33 y33 z33 st33 hQ33
  subst l33 y33 z33
  obtain ⟨rfl, N33q, e33⟩ := hQ33
  have N33 := Fr.app NL32 N33q
  refine own_step st33 ?_
  obtain ⟨LL34, XL34, NL34⟩ : ∃ LL, Stand p l e room_1 s m #[(.int p0), (.int p1), (.long q2), (.int p3)] below meth c T33 LL 1 8 ∧ Fr n0 LL := ⟨_, X33, N33⟩
  show own_Ends p e below s _ _ _ (T33.setTop (mkF m 97 #[.val (.int p0), .val (.int p1), .val (.long q2), .second, .val (.int p3), .val (.int ee), .val (.int kk), .val (.ref b1), .unset, .unset, .unset, .unset, .unset, .unset, .unset, .unset, .unset, .unset] [(.int (f1_0 kk (6 : Int32))), (.int (6 : Int32)), (.ref b1)]))
  obtain ⟨T35, h35, X35, e35, W35, A35, st35⟩ := own_stB XL34 hx hZ e33 A30 6 (by decide) (by decide) (g := (mkF m 97 #[.val (.int p0), .val (.int p1), .val (.long q2), .second, .val (.int p3), .val (.int ee), .val (.int kk), .val (.ref b1), .unset, .unset, .unset, .unset, .unset, .unset, .unset, .unset, .unset, .unset] [(.int (f1_0 kk (6 : Int32))), (.int (6 : Int32)), (.ref b1)])) rfl rfl (hb hby at_97)
  refine own_step st35 ?_
  have N35 := Fr.snoc X35 NL34 gn_b1
  have Z35 : n0 ≤ h35.size := by rw [W35.size]; exact Z30
  have u36 := (u31.wr W35)
  obtain ⟨LL37, XL37, NL37⟩ : ∃ LL, Stand p l e room_1 s m #[(.int p0), (.int p1), (.long q2), (.int p3)] below meth c T35 LL 1 8 ∧ Fr n0 LL := ⟨_, X35, N35⟩
  show own_Ends p e below s _ _ _ (T35.setTop (mkF m 98 #[.val (.int p0), .val (.int p1), .val (.long q2), .second, .val (.int p3), .val (.int ee), .val (.int kk), .val (.ref b1), .unset, .unset, .unset, .unset, .unset, .unset, .unset, .unset, .unset, .unset] []))
  refine own_step (fun t k => XS.aload XL37.here hx rfl (hb hby at_98) rfl rfl k) ?_
  show own_Ends p e below s _ _ _ (T35.setTop (mkF m 100 #[.val (.int p0), .val (.int p1), .val (.long q2), .second, .val (.int p3), .val (.int ee), .val (.int kk), .val (.ref b1), .unset, .unset, .unset, .unset, .unset, .unset, .unset, .unset, .unset, .unset] [(.ref b1)]))
  refine own_step (fun t k => XS.bipush XL37.here hx rfl (hb hby at_100) k) ?_
  show own_Ends p e below s _ _ _ (T35.setTop (mkF m 102 #[.val (.int p0), .val (.int p1), .val (.long q2), .second, .val (.int p3), .val (.int ee), .val (.int kk), .val (.ref b1), .unset, .unset, .unset, .unset, .unset, .unset, .unset, .unset, .unset, .unset] [(.int (7 : Int32)), (.ref b1)]))
  refine own_step (fun t k => XS.iconst XL37.here hx rfl (hb hby at_102) k) ?_
  show own_Ends p e below s _ _ _ (T35.setTop (mkF m 103 #[.val (.int p0), .val (.int p1), .val (.long q2), .second, .val (.int p3), .val (.int ee), .val (.int kk), .val (.ref b1), .unset, .unset, .unset, .unset, .unset, .unset, .unset, .unset, .unset, .unset] [(.int (0 : Int32)), (.int (7 : Int32)), (.ref b1)]))
  obtain ⟨T38, h38, X38, e38, W38, A38, st38⟩ := own_stB XL37 hx hZ e35 A35 7 (by decide) (by decide) (g := (mkF m 103 #[.val (.int p0), .val (.int p1), .val (.long q2), .second, .val (.int p3), .val (.int ee), .val (.int kk), .val (.ref b1), .unset, .unset, .unset, .unset, .unset, .unset, .unset, .unset, .unset, .unset] [(.int (0 : Int32)), (.int (7 : Int32)), (.ref b1)])) rfl rfl (hb hby at_103)
  refine own_step st38 ?_
  have N38 := Fr.snoc X38 NL37 gn_b1
  have Z38 : n0 ≤ h38.size := by rw [W38.size]; exact Z35
  have u39 := (u36.wr W38)
  obtain ⟨LL40, XL40, NL40⟩ : ∃ LL, Stand p l e room_1 s m #[(.int p0), (.int p1), (.long q2), (.int p3)] below meth c T38 LL 1 8 ∧ Fr n0 LL := ⟨_, X38, N38⟩
  show own_Ends p e below s _ _ _ (T38.setTop (mkF m 104 #[.val (.int p0), .val (.int p1), .val (.long q2), .second, .val (.int p3), .val (.int ee), .val (.int kk), .val (.ref b1), .unset, .unset, .unset, .unset, .unset, .unset, .unset, .unset, .unset, .unset] []))
  have At : own_AI Z h38 b1 .byte 8 (own_cb K) := own_congrI A38 (own_cb_eq hK hK8)
  show own_Ends p e below s _ _ _ (T38.setTop (mkF m 104 #[.val (.int p0), .val (.int p1), .val (.long q2), .second, .val (.int p3), .val (.int ee), .val (.int kk), .val (.ref b1), .unset, .unset, .unset, .unset, .unset, .unset, .unset, .unset, .unset, .unset] []))
  refine own_step (fun t k => XS.iload XL40.here hx rfl (hb hby at_104) rfl k) ?_
  show own_Ends p e below s _ _ _ (T38.setTop (mkF m 106 #[.val (.int p0), .val (.int p1), .val (.long q2), .second, .val (.int p3), .val (.int ee), .val (.int kk), .val (.ref b1), .unset, .unset, .unset, .unset, .unset, .unset, .unset, .unset, .unset, .unset] [(.int p3)]))
  refine own_step (fun t k => XS.sipush XL40.here hx rfl (hb hby at_106) k) ?_
  show own_Ends p e below s _ _ _ (T38.setTop (mkF m 109 #[.val (.int p0), .val (.int p1), .val (.long q2), .second, .val (.int p3), .val (.int ee), .val (.int kk), .val (.ref b1), .unset, .unset, .unset, .unset, .unset, .unset, .unset, .unset, .unset, .unset] [(.int (255 : Int32)), (.int p3)]))
  refine own_step (fun t k => XS.iand XL40.here hx rfl (hb hby at_109) rfl k) ?_
  show own_Ends p e below s _ _ _ (T38.setTop (mkF m 110 #[.val (.int p0), .val (.int p1), .val (.long q2), .second, .val (.int p3), .val (.int ee), .val (.int kk), .val (.ref b1), .unset, .unset, .unset, .unset, .unset, .unset, .unset, .unset, .unset, .unset] [(.int (p3 &&& (255 : Int32)))]))
  refine own_step (fun t k => XS.i2c XL40.here hx rfl (hb hby at_110) rfl k) ?_
  show own_Ends p e below s _ _ _ (T38.setTop (mkF m 111 #[.val (.int p0), .val (.int p1), .val (.long q2), .second, .val (.int p3), .val (.int ee), .val (.int kk), .val (.ref b1), .unset, .unset, .unset, .unset, .unset, .unset, .unset, .unset, .unset, .unset] [(.int ((p3 &&& (255 : Int32)).toUInt32.toUInt16.toUInt32.toInt32))]))
  obtain ⟨_, _, ⟨T41, L41, k41, n41⟩, -, X41, ⟨Lc41, hQ41, l41, y41, z41⟩, st41⟩ := Jvm.LawKit.callS XL40 hx (y := (⟨"java/lang/String", "valueOf", "(C)Ljava/lang/String;"⟩ : MethodName)) hown (mvT hZ (hw _ (List.mem_of_getElem? (i := 6) rfl))) (mvT hZ (hw _ (List.mem_of_getElem? (i := 7) rfl))) (mvT hZ (hw _ (List.mem_of_getElem? (i := 8) rfl))) (mvT hZ (hw _ (List.mem_of_getElem? (i := 9) rfl))) (by decide) (backOf (W := 0) (rm2 l Z a0 hw [] ((p3 &&& (255 : Int32)).toUInt32.toUInt16.toUInt32.toInt32) cs h38 n0 Z38 u39 hcs (own_chr p3)) hZ (hw _ (List.mem_of_getElem? (i := 9) rfl)) (hw _ (List.mem_of_getElem? (i := 8) rfl)) (by decide) (by decide)) (g := (mkF m 111 #[.val (.int p0), .val (.int p1), .val (.long q2), .second, .val (.int p3), .val (.int ee), .val (.int kk), .val (.ref b1), .unset, .unset, .unset, .unset, .unset, .unset, .unset, .unset, .unset, .unset] [(.int ((p3 &&& (255 : Int32)).toUInt32.toUInt16.toUInt32.toInt32))])) rfl (by rw [hml]; rfl) (argsL := [(.int ((p3 &&& (255 : Int32)).toUInt32.toUInt16.toUInt32.toInt32))]) (rest := []) (lenOf pd0_1 rfl) rfl (by show 2 * 0 + _ ≤ _; exact Nat.le_of_eq rfl) (hb hby at_111) (fun _ _ => ⟨rfl, e38, (by decide : 1 + 2 ≤ _), (by decide : 8 + 5 ≤ _)⟩)
  dsimp only [Pt.U, Pt.locs, Pt.cells, Pt.slots] at X41 l41 y41 z41 st41 hQ41
  subst l41 y41 z41
  obtain ⟨r41, rfl, N41q, Z41, K41⟩ := hQ41
  have N41 := Fr.app NL40 N41q
  have u42 := (At.keep K41 nin0)
  refine own_step st41 ?_
  obtain ⟨LL43, XL43, NL43⟩ : ∃ LL, Stand p l e room_1 s m #[(.int p0), (.int p1), (.long q2), (.int p3)] below meth c T41 LL 3 13 ∧ Fr n0 LL := ⟨_, X41, N41⟩
  show own_Ends p e below s _ _ _ (T41.setTop (mkF m 114 #[.val (.int p0), .val (.int p1), .val (.long q2), .second, .val (.int p3), .val (.int ee), .val (.int kk), .val (.ref b1), .unset, .unset, .unset, .unset, .unset, .unset, .unset, .unset, .unset, .unset] [(.ref r41)]))
  refine own_step (fun t k => XS.astore XL43.here hx rfl (hb hby at_114) rfl rfl (l' := #[.val (.int p0), .val (.int p1), .val (.long q2), .second, .val (.int p3), .val (.int ee), .val (.int kk), .val (.ref b1), .val (.ref r41), .unset, .unset, .unset, .unset, .unset, .unset, .unset, .unset, .unset]) rfl k) ?_
  show own_Ends p e below s _ _ _ (T41.setTop (mkF m 116 #[.val (.int p0), .val (.int p1), .val (.long q2), .second, .val (.int p3), .val (.int ee), .val (.int kk), .val (.ref b1), .val (.ref r41), .unset, .unset, .unset, .unset, .unset, .unset, .unset, .unset, .unset] []))
  obtain ⟨T44, h44, X44, e44, E44, A44, D44, -, st44⟩ := newO XL43 hx hZ hown (hw _ (List.mem_of_getElem? (i := 31) rfl)) (hw _ (List.mem_of_getElem? (i := 32) rfl)) (hw _ (List.mem_of_getElem? (i := 33) rfl)) rfl (g := (mkF m 116 #[.val (.int p0), .val (.int p1), .val (.long q2), .second, .val (.int p3), .val (.int ee), .val (.int kk), .val (.ref b1), .val (.ref r41), .unset, .unset, .unset, .unset, .unset, .unset, .unset, .unset, .unset] [])) rfl (hb hby at_116) (by decide) (by decide)
  obtain ⟨b44, g44⟩ : ∃ z, z = T41.heap.size := ⟨_, rfl⟩
  rw [← g44] at A44 D44 st44
  have ne_b1_b44 : b1 ≠ b44 := Nat.ne_of_lt (Nat.lt_of_lt_of_le u42.lt (Nat.le_of_eq g44.symm))
  have gn_b44 : n0 ≤ b44 := Nat.le_trans Z41 (Nat.le_of_eq g44.symm)
  have Z44 : n0 ≤ h44.size := Nat.le_trans Z41 E44.1
  have u45 := (u42.ext E44)
  have F44_bytes : Fld Z h44 b44 "com/example/weftline/weftline/runner/CompactWire$Body" "bytes" "[B" .null := D44 (Or.inr (hw _ (List.mem_of_getElem? (i := 39) rfl))) (ty := (.array .byte)) (by decide)
  have F44_end : Fld Z h44 b44 "com/example/weftline/weftline/runner/CompactWire$Body" "end" "I" (.int (0 : Int32)) := D44 (Or.inr (hw _ (List.mem_of_getElem? (i := 41) rfl))) (ty := .int) (by decide)
  have F44_position : Fld Z h44 b44 "com/example/weftline/weftline/runner/CompactWire$Body" "position" "I" (.int (0 : Int32)) := D44 (Or.inl (hw _ (List.mem_of_getElem? (i := 49) rfl))) (ty := .int) (by decide)
  refine own_step st44 ?_
  show own_Ends p e below s _ _ _ (T44.setTop (mkF m 119 #[.val (.int p0), .val (.int p1), .val (.long q2), .second, .val (.int p3), .val (.int ee), .val (.int kk), .val (.ref b1), .val (.ref r41), .unset, .unset, .unset, .unset, .unset, .unset, .unset, .unset, .unset] [(.ref b44)]))
  refine own_step (fun t k => XS.dup X44.here hx rfl (hb hby at_119) rfl rfl k) ?_
  show own_Ends p e below s _ _ _ (T44.setTop (mkF m 120 #[.val (.int p0), .val (.int p1), .val (.long q2), .second, .val (.int p3), .val (.int ee), .val (.int kk), .val (.ref b1), .val (.ref r41), .unset, .unset, .unset, .unset, .unset, .unset, .unset, .unset, .unset] [(.ref b44), (.ref b44)]))
  refine own_step (fun t k => XS.aload X44.here hx rfl (hb hby at_120) rfl rfl k) ?_
  show own_Ends p e below s _ _ _ (T44.setTop (mkF m 122 #[.val (.int p0), .val (.int p1), .val (.long q2), .second, .val (.int p3), .val (.int ee), .val (.int kk), .val (.ref b1), .val (.ref r41), .unset, .unset, .unset, .unset, .unset, .unset, .unset, .unset, .unset] [(.ref b1), (.ref b44), (.ref b44)]))
  refine own_step (fun t k => XS.iload X44.here hx rfl (hb hby at_122) rfl k) ?_
  show own_Ends p e below s _ _ _ (T44.setTop (mkF m 124 #[.val (.int p0), .val (.int p1), .val (.long q2), .second, .val (.int p3), .val (.int ee), .val (.int kk), .val (.ref b1), .val (.ref r41), .unset, .unset, .unset, .unset, .unset, .unset, .unset, .unset, .unset] [(.int ee), (.ref b1), (.ref b44), (.ref b44)]))
  obtain ⟨_, _, ⟨T46, L46, k46, n46⟩, -, X46, ⟨Lc46, hQ46, l46, y46, z46⟩, st46⟩ := X44.specialBack hx (y := (⟨"com/example/weftline/weftline/runner/CompactWire$Body", "<init>", "([BI)V"⟩ : MethodName)) rfl hown (mvT hZ (hw _ (List.mem_of_getElem? (i := 34) rfl))) (mvT hZ (hw _ (List.mem_of_getElem? (i := 35) rfl))) (mvT hZ (hw _ (List.mem_of_getElem? (i := 36) rfl))) (by decide) (backOf (W := 1) (rm7 l Z a0 hw [] b44 b1 ee  h44 n0 Z44 gn_b44 A44 F44_bytes F44_end F44_position) hZ (hw _ (List.mem_of_getElem? (i := 36) rfl)) (hw _ (List.mem_of_getElem? (i := 33) rfl)) (by decide) (by decide)) (g := (mkF m 124 #[.val (.int p0), .val (.int p1), .val (.long q2), .second, .val (.int p3), .val (.int ee), .val (.int kk), .val (.ref b1), .val (.ref r41), .unset, .unset, .unset, .unset, .unset, .unset, .unset, .unset, .unset] [(.int ee), (.ref b1), (.ref b44), (.ref b44)])) rfl (by rw [hml]; rfl) (Steps.refl _) (a := b44) (argsL := [(.ref b1), (.int ee)]) (rest := [(.ref b44)]) (lenOf pd0_2 rfl) rfl (by show 2 * 0 + _ ≤ _; exact Nat.le_of_eq rfl) (hb hby at_124) (fun _ _ => ⟨rfl, e44, (by decide : 4 + 0 ≤ _), (by decide : 16 + 0 ≤ _)⟩)
  dsimp only [Pt.U, Pt.locs, Pt.cells, Pt.slots] at X46 l46 y46 z46 st46 hQ46
  subst l46 y46 z46
  obtain ⟨rfl, N46q, Z46, K46, E46_0, F46_bytes, F46_end, F46_position⟩ := hQ46
  have N46 := Fr.app NL43 N46q
  have u47 := (u45.keep K46 (ninS ne_b1_b44 nin0))
  refine own_step (fun t k => st46.trans k) ?_
  obtain ⟨LL48, XL48, NL48⟩ : ∃ LL, Stand p l e room_1 s m #[(.int p0), (.int p1), (.long q2), (.int p3)] below meth c T46 LL 4 16 ∧ Fr n0 LL := ⟨_, X46, N46⟩
  show own_Ends p e below s _ _ _ (T46.setTop (mkF m 127 #[.val (.int p0), .val (.int p1), .val (.long q2), .second, .val (.int p3), .val (.int ee), .val (.int kk), .val (.ref b1), .val (.ref r41), .unset, .unset, .unset, .unset, .unset, .unset, .unset, .unset, .unset] [(.ref b44)]))
  refine own_step (fun t k => XS.astore XL48.here hx rfl (hb hby at_127) rfl rfl (l' := #[.val (.int p0), .val (.int p1), .val (.long q2), .second, .val (.int p3), .val (.int ee), .val (.int kk), .val (.ref b1), .val (.ref r41), .val (.ref b44), .unset, .unset, .unset, .unset, .unset, .unset, .unset, .unset]) rfl k) ?_
  show own_Ends p e below s _ _ _ (T46.setTop (mkF m 129 #[.val (.int p0), .val (.int p1), .val (.long q2), .second, .val (.int p3), .val (.int ee), .val (.int kk), .val (.ref b1), .val (.ref r41), .val (.ref b44), .unset, .unset, .unset, .unset, .unset, .unset, .unset, .unset] []))
  refine own_step (fun t k => XS.lconst XL48.here hx rfl (hb hby at_129) k) ?_
  show own_Ends p e below s _ _ _ (T46.setTop (mkF m 130 #[.val (.int p0), .val (.int p1), .val (.long q2), .second, .val (.int p3), .val (.int ee), .val (.int kk), .val (.ref b1), .val (.ref r41), .val (.ref b44), .unset, .unset, .unset, .unset, .unset, .unset, .unset, .unset] [(.long (0 : Int64))]))
  refine own_step (fun t k => XS.lstore XL48.here hx rfl (hb hby at_130) rfl (l' := #[.val (.int p0), .val (.int p1), .val (.long q2), .second, .val (.int p3), .val (.int ee), .val (.int kk), .val (.ref b1), .val (.ref r41), .val (.ref b44), .val (.long (0 : Int64)), .second, .unset, .unset, .unset, .unset, .unset, .unset]) rfl k) ?_
  show own_Ends p e below s _ _ _ (T46.setTop (mkF m 132 #[.val (.int p0), .val (.int p1), .val (.long q2), .second, .val (.int p3), .val (.int ee), .val (.int kk), .val (.ref b1), .val (.ref r41), .val (.ref b44), .val (.long (0 : Int64)), .second, .unset, .unset, .unset, .unset, .unset, .unset] []))
  refine own_step (fun t k => XS.iload XL48.here hx rfl (hb hby at_132) rfl k) ?_
  show own_Ends p e below s _ _ _ (T46.setTop (mkF m 134 #[.val (.int p0), .val (.int p1), .val (.long q2), .second, .val (.int p3), .val (.int ee), .val (.int kk), .val (.ref b1), .val (.ref r41), .val (.ref b44), .val (.long (0 : Int64)), .second, .unset, .unset, .unset, .unset, .unset, .unset] [(.int kk)]))
  refine own_step (fun t k => XS.iconst XL48.here hx rfl (hb hby at_134) k) ?_
  show own_Ends p e below s _ _ _ (T46.setTop (mkF m 135 #[.val (.int p0), .val (.int p1), .val (.long q2), .second, .val (.int p3), .val (.int ee), .val (.int kk), .val (.ref b1), .val (.ref r41), .val (.ref b44), .val (.long (0 : Int64)), .second, .unset, .unset, .unset, .unset, .unset, .unset] [(.int (1 : Int32)), (.int kk)]))
  by_cases hc135_49 : kk < (1 : Int32)
  · -- kk < (1 : Int32)
    refine own_step (fun t k => XS.icmpYes XL48.here hx rfl (pc0 := 135) (pc' := 145) rfl (hb hby at_135) rfl (tlt hc135_49).1 (by decide) (by decide) k) ?_
    show own_Ends p e below s _ _ _ (T46.setTop (mkF m 145 #[.val (.int p0), .val (.int p1), .val (.long q2), .second, .val (.int p3), .val (.int ee), .val (.int kk), .val (.ref b1), .val (.ref r41), .val (.ref b44), .val (.long (0 : Int64)), .second, .unset, .unset, .unset, .unset, .unset, .unset] []))
    refine own_step (fun t k => XS.iload XL48.here hx rfl (hb hby at_145) rfl k) ?_
    show own_Ends p e below s _ _ _ (T46.setTop (mkF m 147 #[.val (.int p0), .val (.int p1), .val (.long q2), .second, .val (.int p3), .val (.int ee), .val (.int kk), .val (.ref b1), .val (.ref r41), .val (.ref b44), .val (.long (0 : Int64)), .second, .unset, .unset, .unset, .unset, .unset, .unset] [(.int ee)]))
    refine own_step (fun t k => XS.iload XL48.here hx rfl (hb hby at_147) rfl k) ?_
    show own_Ends p e below s _ _ _ (T46.setTop (mkF m 149 #[.val (.int p0), .val (.int p1), .val (.long q2), .second, .val (.int p3), .val (.int ee), .val (.int kk), .val (.ref b1), .val (.ref r41), .val (.ref b44), .val (.long (0 : Int64)), .second, .unset, .unset, .unset, .unset, .unset, .unset] [(.int kk), (.int ee)]))
    refine own_step (fun t k => XS.isub XL48.here hx rfl (hb hby at_149) rfl k) ?_
    show own_Ends p e below s _ _ _ (T46.setTop (mkF m 150 #[.val (.int p0), .val (.int p1), .val (.long q2), .second, .val (.int p3), .val (.int ee), .val (.int kk), .val (.ref b1), .val (.ref r41), .val (.ref b44), .val (.long (0 : Int64)), .second, .unset, .unset, .unset, .unset, .unset, .unset] [(.int (ee - kk))]))
    generalize hz_rr : (ee - kk) = rr
    have hr := own_r he hK hKe hz_rr
    have hk0 := own_k0 hK hc135_49
    show own_Ends p e below s _ _ _ (T46.setTop (mkF m 150 #[.val (.int p0), .val (.int p1), .val (.long q2), .second, .val (.int p3), .val (.int ee), .val (.int kk), .val (.ref b1), .val (.ref r41), .val (.ref b44), .val (.long (0 : Int64)), .second, .unset, .unset, .unset, .unset, .unset, .unset] [(.int rr)]))
    refine own_step (fun t k => XS.istore XL48.here hx rfl (hb hby at_150) rfl (l' := #[.val (.int p0), .val (.int p1), .val (.long q2), .second, .val (.int p3), .val (.int ee), .val (.int kk), .val (.ref b1), .val (.ref r41), .val (.ref b44), .val (.long (0 : Int64)), .second, .val (.int rr), .unset, .unset, .unset, .unset, .unset]) rfl k) ?_
    show own_Ends p e below s _ _ _ (T46.setTop (mkF m 152 #[.val (.int p0), .val (.int p1), .val (.long q2), .second, .val (.int p3), .val (.int ee), .val (.int kk), .val (.ref b1), .val (.ref r41), .val (.ref b44), .val (.long (0 : Int64)), .second, .val (.int rr), .unset, .unset, .unset, .unset, .unset] []))
    refine own_step (fun t k => XS.lloadN XL48.here hx rfl (hb hby at_152) rfl k) ?_
    show own_Ends p e below s _ _ _ (T46.setTop (mkF m 153 #[.val (.int p0), .val (.int p1), .val (.long q2), .second, .val (.int p3), .val (.int ee), .val (.int kk), .val (.ref b1), .val (.ref r41), .val (.ref b44), .val (.long (0 : Int64)), .second, .val (.int rr), .unset, .unset, .unset, .unset, .unset] [(.long q2)]))
    refine own_step (fun t k => XL48.ldc2Long hx hown (mvT hZ (hw _ (List.mem_of_getElem? (i := 42) rfl))) (g := (mkF m 153 #[.val (.int p0), .val (.int p1), .val (.long q2), .second, .val (.int p3), .val (.int ee), .val (.int kk), .val (.ref b1), .val (.ref r41), .val (.ref b44), .val (.long (0 : Int64)), .second, .val (.int rr), .unset, .unset, .unset, .unset, .unset] [(.long q2)])) rfl (hb hby at_153) t k) ?_
    show own_Ends p e below s _ _ _ (T46.setTop (mkF m 156 #[.val (.int p0), .val (.int p1), .val (.long q2), .second, .val (.int p3), .val (.int ee), .val (.int kk), .val (.ref b1), .val (.ref r41), .val (.ref b44), .val (.long (0 : Int64)), .second, .val (.int rr), .unset, .unset, .unset, .unset, .unset] [(.long (9223372036854775807 : Int64)), (.long q2)]))
    refine own_step (fun t k => XS.land XL48.here hx rfl (hb hby at_156) rfl k) ?_
    show own_Ends p e below s _ _ _ (T46.setTop (mkF m 157 #[.val (.int p0), .val (.int p1), .val (.long q2), .second, .val (.int p3), .val (.int ee), .val (.int kk), .val (.ref b1), .val (.ref r41), .val (.ref b44), .val (.long (0 : Int64)), .second, .val (.int rr), .unset, .unset, .unset, .unset, .unset] [(.long (q2 &&& (9223372036854775807 : Int64)))]))
    refine own_step (fun t k => XS.iload XL48.here hx rfl (hb hby at_157) rfl k) ?_
    show own_Ends p e below s _ _ _ (T46.setTop (mkF m 159 #[.val (.int p0), .val (.int p1), .val (.long q2), .second, .val (.int p3), .val (.int ee), .val (.int kk), .val (.ref b1), .val (.ref r41), .val (.ref b44), .val (.long (0 : Int64)), .second, .val (.int rr), .unset, .unset, .unset, .unset, .unset] [(.int rr), (.long (q2 &&& (9223372036854775807 : Int64)))]))
    refine own_step (fun t k => XS.iconst XL48.here hx rfl (hb hby at_159) k) ?_
    show own_Ends p e below s _ _ _ (T46.setTop (mkF m 160 #[.val (.int p0), .val (.int p1), .val (.long q2), .second, .val (.int p3), .val (.int ee), .val (.int kk), .val (.ref b1), .val (.ref r41), .val (.ref b44), .val (.long (0 : Int64)), .second, .val (.int rr), .unset, .unset, .unset, .unset, .unset] [(.int (1 : Int32)), (.int rr), (.long (q2 &&& (9223372036854775807 : Int64)))]))
    refine own_step (fun t k => XS.iadd XL48.here hx rfl (hb hby at_160) rfl k) ?_
    show own_Ends p e below s _ _ _ (T46.setTop (mkF m 161 #[.val (.int p0), .val (.int p1), .val (.long q2), .second, .val (.int p3), .val (.int ee), .val (.int kk), .val (.ref b1), .val (.ref r41), .val (.ref b44), .val (.long (0 : Int64)), .second, .val (.int rr), .unset, .unset, .unset, .unset, .unset] [(.int (rr + (1 : Int32))), (.long (q2 &&& (9223372036854775807 : Int64)))]))
    refine own_step (fun t k => XS.i2l XL48.here hx rfl (hb hby at_161) rfl k) ?_
    show own_Ends p e below s _ _ _ (T46.setTop (mkF m 162 #[.val (.int p0), .val (.int p1), .val (.long q2), .second, .val (.int p3), .val (.int ee), .val (.int kk), .val (.ref b1), .val (.ref r41), .val (.ref b44), .val (.long (0 : Int64)), .second, .val (.int rr), .unset, .unset, .unset, .unset, .unset] [(.long ((rr + (1 : Int32)).toInt64)), (.long (q2 &&& (9223372036854775807 : Int64)))]))
    refine own_step (fun t k => own_lrem XL48 hx rfl (hb hby at_162) rfl (own_ne2 hr) k) ?_
    show own_Ends p e below s _ _ _ (T46.setTop (mkF m 163 #[.val (.int p0), .val (.int p1), .val (.long q2), .second, .val (.int p3), .val (.int ee), .val (.int kk), .val (.ref b1), .val (.ref r41), .val (.ref b44), .val (.long (0 : Int64)), .second, .val (.int rr), .unset, .unset, .unset, .unset, .unset] [(.long ((q2 &&& (9223372036854775807 : Int64)) % ((rr + (1 : Int32)).toInt64)))]))
    generalize hz_ag : ((q2 &&& (9223372036854775807 : Int64)) % ((rr + (1 : Int32)).toInt64)) = ag
    have ha := own_ag hr hz_ag
    clear hz_ag
    show own_Ends p e below s _ _ _ (T46.setTop (mkF m 163 #[.val (.int p0), .val (.int p1), .val (.long q2), .second, .val (.int p3), .val (.int ee), .val (.int kk), .val (.ref b1), .val (.ref r41), .val (.ref b44), .val (.long (0 : Int64)), .second, .val (.int rr), .unset, .unset, .unset, .unset, .unset] [(.long ag)]))
    refine own_step (fun t k => XS.lstore XL48.here hx rfl (hb hby at_163) rfl (l' := #[.val (.int p0), .val (.int p1), .val (.long q2), .second, .val (.int p3), .val (.int ee), .val (.int kk), .val (.ref b1), .val (.ref r41), .val (.ref b44), .val (.long (0 : Int64)), .second, .val (.int rr), .val (.long ag), .second, .unset, .unset, .unset]) rfl k) ?_
    show own_Ends p e below s _ _ _ (T46.setTop (mkF m 165 #[.val (.int p0), .val (.int p1), .val (.long q2), .second, .val (.int p3), .val (.int ee), .val (.int kk), .val (.ref b1), .val (.ref r41), .val (.ref b44), .val (.long (0 : Int64)), .second, .val (.int rr), .val (.long ag), .second, .unset, .unset, .unset] []))
    show own_Ends p e below s _ _ _ (T46.setTop (mkF m 165 #[.val (.int p0), .val (.int p1), .val (.long q2), .second, .val (.int p3), .val (.int ee), .val (.int kk), .val (.ref b1), .val (.ref r41), .val (.ref b44), .val (.long (0 : Int64)), .second, .val (.int rr), .val (.long ag), .second, .unset, .unset, .unset] []))
    refine own_step (fun t k => XS.aload XL48.here hx rfl (hb hby at_165) rfl rfl k) ?_
    show own_Ends p e below s _ _ _ (T46.setTop (mkF m 167 #[.val (.int p0), .val (.int p1), .val (.long q2), .second, .val (.int p3), .val (.int ee), .val (.int kk), .val (.ref b1), .val (.ref r41), .val (.ref b44), .val (.long (0 : Int64)), .second, .val (.int rr), .val (.long ag), .second, .unset, .unset, .unset] [(.ref b44)]))
    refine own_step (fun t k => XS.lload XL48.here hx rfl (hb hby at_167) rfl k) ?_
    show own_Ends p e below s _ _ _ (T46.setTop (mkF m 169 #[.val (.int p0), .val (.int p1), .val (.long q2), .second, .val (.int p3), .val (.int ee), .val (.int kk), .val (.ref b1), .val (.ref r41), .val (.ref b44), .val (.long (0 : Int64)), .second, .val (.int rr), .val (.long ag), .second, .unset, .unset, .unset] [(.long ag), (.ref b44)]))
    refine own_step (fun t k => XS.aload XL48.here hx rfl (hb hby at_169) rfl rfl k) ?_
    show own_Ends p e below s _ _ _ (T46.setTop (mkF m 171 #[.val (.int p0), .val (.int p1), .val (.long q2), .second, .val (.int p3), .val (.int ee), .val (.int kk), .val (.ref b1), .val (.ref r41), .val (.ref b44), .val (.long (0 : Int64)), .second, .val (.int rr), .val (.long ag), .second, .unset, .unset, .unset] [(.ref r41), (.long ag), (.ref b44)]))
    obtain ⟨cq50, kq50, q50a, q50b, q50c⟩ := isOf hZ rfl E46_0
    obtain ⟨_, _, ⟨T50, L50, k50, n50⟩, -, X50, ⟨Lc50, hQ50, l50, y50, z50⟩, st50⟩ := XL48.virtualBack hx (y := (⟨"com/example/weftline/weftline/runner/CompactWire$Body", "length", "(JLjava/lang/String;)I"⟩ : MethodName)) (z := (⟨"com/example/weftline/weftline/runner/CompactWire$Body", "length", "(JLjava/lang/String;)I"⟩ : MethodName)) hown (mvT hZ (hw _ (List.mem_of_getElem? (i := 43) rfl))) (mvT hZ (hw _ (List.mem_of_getElem? (i := 44) rfl))) (notFace_of_selects (args := #[]) (mvT hZ (hw _ (List.mem_of_getElem? (i := 46) rfl)))) (mvT hZ (hw _ (List.mem_of_getElem? (i := 46) rfl))) (mvT hZ (hw _ (List.mem_of_getElem? (i := 45) rfl))) (by decide) (backOf (W := 0) (rm8 l Z a0 hw [] b44 ag r41 ee (0 : Int32) T46.heap n0 F46_end F46_position (own_l0 ha) (own_l1 ha (own_z hk0 hz_rr))) hZ (hw _ (List.mem_of_getElem? (i := 47) rfl)) (hw _ (List.mem_of_getElem? (i := 33) rfl)) (by decide) (by decide)) q50a q50c (g := (mkF m 171 #[.val (.int p0), .val (.int p1), .val (.long q2), .second, .val (.int p3), .val (.int ee), .val (.int kk), .val (.ref b1), .val (.ref r41), .val (.ref b44), .val (.long (0 : Int64)), .second, .val (.int rr), .val (.long ag), .second, .unset, .unset, .unset] [(.ref r41), (.long ag), (.ref b44)])) rfl (by rw [hml]; rfl) (Steps.refl _) (argsL := [(.long ag), (.ref r41)]) (rest := []) (lenOf pd0_3 rfl) rfl (by show 2 * 0 + _ ≤ _; exact Nat.le_of_eq rfl) (hb hby at_171) (fun _ _ => ⟨rfl, rfl, (by decide : 4 + 0 ≤ _), (by decide : 16 + 0 ≤ _)⟩)
    dsimp only [Pt.U, Pt.locs, Pt.cells, Pt.slots] at X50 l50 y50 z50 st50 hQ50
    subst l50 y50 z50
    obtain ⟨rfl, N50q, e50⟩ := hQ50
    have N50 := Fr.app NL48 N50q
    refine own_step (fun t k => st50.trans k) ?_
    obtain ⟨LL51, XL51, NL51⟩ : ∃ LL, Stand p l e room_1 s m #[(.int p0), (.int p1), (.long q2), (.int p3)] below meth c T50 LL 4 16 ∧ Fr n0 LL := ⟨_, X50, N50⟩
    show own_Ends p e below s _ _ _ (T50.setTop (mkF m 174 #[.val (.int p0), .val (.int p1), .val (.long q2), .second, .val (.int p3), .val (.int ee), .val (.int kk), .val (.ref b1), .val (.ref r41), .val (.ref b44), .val (.long (0 : Int64)), .second, .val (.int rr), .val (.long ag), .second, .unset, .unset, .unset] [(.int (f8_0 ag ee (0 : Int32)))]))
    refine own_step (fun t k => XS.istore XL51.here hx rfl (hb hby at_174) rfl (l' := #[.val (.int p0), .val (.int p1), .val (.long q2), .second, .val (.int p3), .val (.int ee), .val (.int kk), .val (.ref b1), .val (.ref r41), .val (.ref b44), .val (.long (0 : Int64)), .second, .val (.int rr), .val (.long ag), .second, .val (.int (f8_0 ag ee (0 : Int32))), .unset, .unset]) rfl k) ?_
    show own_Ends p e below s _ _ _ (T50.setTop (mkF m 176 #[.val (.int p0), .val (.int p1), .val (.long q2), .second, .val (.int p3), .val (.int ee), .val (.int kk), .val (.ref b1), .val (.ref r41), .val (.ref b44), .val (.long (0 : Int64)), .second, .val (.int rr), .val (.long ag), .second, .val (.int (f8_0 ag ee (0 : Int32))), .unset, .unset] []))
    refine own_step (fun t k => XS.aload XL51.here hx rfl (hb hby at_176) rfl rfl k) ?_
    show own_Ends p e below s _ _ _ (T50.setTop (mkF m 178 #[.val (.int p0), .val (.int p1), .val (.long q2), .second, .val (.int p3), .val (.int ee), .val (.int kk), .val (.ref b1), .val (.ref r41), .val (.ref b44), .val (.long (0 : Int64)), .second, .val (.int rr), .val (.long ag), .second, .val (.int (f8_0 ag ee (0 : Int32))), .unset, .unset] [(.ref b44)]))
    refine own_step (fun t k => XS.iload XL51.here hx rfl (hb hby at_178) rfl k) ?_
    show own_Ends p e below s _ _ _ (T50.setTop (mkF m 180 #[.val (.int p0), .val (.int p1), .val (.long q2), .second, .val (.int p3), .val (.int ee), .val (.int kk), .val (.ref b1), .val (.ref r41), .val (.ref b44), .val (.long (0 : Int64)), .second, .val (.int rr), .val (.long ag), .second, .val (.int (f8_0 ag ee (0 : Int32))), .unset, .unset] [(.int rr), (.ref b44)]))
    refine own_step (fun t k => XS.i2l XL51.here hx rfl (hb hby at_180) rfl k) ?_
    show own_Ends p e below s _ _ _ (T50.setTop (mkF m 181 #[.val (.int p0), .val (.int p1), .val (.long q2), .second, .val (.int p3), .val (.int ee), .val (.int kk), .val (.ref b1), .val (.ref r41), .val (.ref b44), .val (.long (0 : Int64)), .second, .val (.int rr), .val (.long ag), .second, .val (.int (f8_0 ag ee (0 : Int32))), .unset, .unset] [(.long (rr.toInt64)), (.ref b44)]))
    refine own_step (fun t k => XS.aload XL51.here hx rfl (hb hby at_181) rfl rfl k) ?_
    show own_Ends p e below s _ _ _ (T50.setTop (mkF m 183 #[.val (.int p0), .val (.int p1), .val (.long q2), .second, .val (.int p3), .val (.int ee), .val (.int kk), .val (.ref b1), .val (.ref r41), .val (.ref b44), .val (.long (0 : Int64)), .second, .val (.int rr), .val (.long ag), .second, .val (.int (f8_0 ag ee (0 : Int32))), .unset, .unset] [(.ref r41), (.long (rr.toInt64)), (.ref b44)]))
    obtain ⟨cq52, kq52, q52a, q52b, q52c⟩ := isOf hZ e50 E46_0
    obtain ⟨_, _, ⟨T52, L52, k52, n52⟩, -, X52, ⟨Lc52, hQ52, l52, y52, z52⟩, st52⟩ := XL51.virtualBack hx (y := (⟨"com/example/weftline/weftline/runner/CompactWire$Body", "length", "(JLjava/lang/String;)I"⟩ : MethodName)) (z := (⟨"com/example/weftline/weftline/runner/CompactWire$Body", "length", "(JLjava/lang/String;)I"⟩ : MethodName)) hown (mvT hZ (hw _ (List.mem_of_getElem? (i := 43) rfl))) (mvT hZ (hw _ (List.mem_of_getElem? (i := 44) rfl))) (notFace_of_selects (args := #[]) (mvT hZ (hw _ (List.mem_of_getElem? (i := 46) rfl)))) (mvT hZ (hw _ (List.mem_of_getElem? (i := 46) rfl))) (mvT hZ (hw _ (List.mem_of_getElem? (i := 45) rfl))) (by decide) (backOf (W := 0) (rm8 l Z a0 hw [] b44 (rr.toInt64) r41 ee (0 : Int32) T46.heap n0 F46_end F46_position (own_l2 hr) (own_l3 (own_z hk0 hz_rr))) hZ (hw _ (List.mem_of_getElem? (i := 47) rfl)) (hw _ (List.mem_of_getElem? (i := 33) rfl)) (by decide) (by decide)) q52a q52c (g := (mkF m 183 #[.val (.int p0), .val (.int p1), .val (.long q2), .second, .val (.int p3), .val (.int ee), .val (.int kk), .val (.ref b1), .val (.ref r41), .val (.ref b44), .val (.long (0 : Int64)), .second, .val (.int rr), .val (.long ag), .second, .val (.int (f8_0 ag ee (0 : Int32))), .unset, .unset] [(.ref r41), (.long (rr.toInt64)), (.ref b44)])) rfl (by rw [hml]; rfl) (Steps.refl _) (argsL := [(.long (rr.toInt64)), (.ref r41)]) (rest := []) (lenOf pd0_3 rfl) rfl (by show 2 * 0 + _ ≤ _; exact Nat.le_of_eq rfl) (hb hby at_183) (fun _ _ => ⟨rfl, e50, (by decide : 4 + 0 ≤ _), (by decide : 16 + 0 ≤ _)⟩)
    dsimp only [Pt.U, Pt.locs, Pt.cells, Pt.slots] at X52 l52 y52 z52 st52 hQ52
    subst l52 y52 z52
    obtain ⟨rfl, N52q, e52⟩ := hQ52
    have N52 := Fr.app NL51 N52q
    refine own_step (fun t k => st52.trans k) ?_
    obtain ⟨LL53, XL53, NL53⟩ : ∃ LL, Stand p l e room_1 s m #[(.int p0), (.int p1), (.long q2), (.int p3)] below meth c T52 LL 4 16 ∧ Fr n0 LL := ⟨_, X52, N52⟩
    show own_Ends p e below s _ _ _ (T52.setTop (mkF m 186 #[.val (.int p0), .val (.int p1), .val (.long q2), .second, .val (.int p3), .val (.int ee), .val (.int kk), .val (.ref b1), .val (.ref r41), .val (.ref b44), .val (.long (0 : Int64)), .second, .val (.int rr), .val (.long ag), .second, .val (.int (f8_0 ag ee (0 : Int32))), .unset, .unset] [(.int (f8_0 (rr.toInt64) ee (0 : Int32)))]))
    refine own_step (fun t k => XS.istore XL53.here hx rfl (hb hby at_186) rfl (l' := #[.val (.int p0), .val (.int p1), .val (.long q2), .second, .val (.int p3), .val (.int ee), .val (.int kk), .val (.ref b1), .val (.ref r41), .val (.ref b44), .val (.long (0 : Int64)), .second, .val (.int rr), .val (.long ag), .second, .val (.int (f8_0 ag ee (0 : Int32))), .val (.int (f8_0 (rr.toInt64) ee (0 : Int32))), .unset]) rfl k) ?_
    show own_Ends p e below s _ _ _ (T52.setTop (mkF m 188 #[.val (.int p0), .val (.int p1), .val (.long q2), .second, .val (.int p3), .val (.int ee), .val (.int kk), .val (.ref b1), .val (.ref r41), .val (.ref b44), .val (.long (0 : Int64)), .second, .val (.int rr), .val (.long ag), .second, .val (.int (f8_0 ag ee (0 : Int32))), .val (.int (f8_0 (rr.toInt64) ee (0 : Int32))), .unset] []))
    refine own_step (fun t k => XS.aload XL53.here hx rfl (hb hby at_188) rfl rfl k) ?_
    show own_Ends p e below s _ _ _ (T52.setTop (mkF m 190 #[.val (.int p0), .val (.int p1), .val (.long q2), .second, .val (.int p3), .val (.int ee), .val (.int kk), .val (.ref b1), .val (.ref r41), .val (.ref b44), .val (.long (0 : Int64)), .second, .val (.int rr), .val (.long ag), .second, .val (.int (f8_0 ag ee (0 : Int32))), .val (.int (f8_0 (rr.toInt64) ee (0 : Int32))), .unset] [(.ref b44)]))
    obtain ⟨cq54, kq54, q54a, q54b, q54c⟩ := isOf hZ e52 E46_0
    obtain ⟨_, _, ⟨T54, L54, k54, n54⟩, -, X54, ⟨Lc54, hQ54, l54, y54, z54⟩, st54⟩ := XL53.virtualBack hx (y := (⟨"com/example/weftline/weftline/runner/CompactWire$Body", "more", "()Z"⟩ : MethodName)) (z := (⟨"com/example/weftline/weftline/runner/CompactWire$Body", "more", "()Z"⟩ : MethodName)) hown (mvT hZ (hw _ (List.mem_of_getElem? (i := 50) rfl))) (mvT hZ (hw _ (List.mem_of_getElem? (i := 51) rfl))) (notFace_of_selects (args := #[]) (mvT hZ (hw _ (List.mem_of_getElem? (i := 53) rfl)))) (mvT hZ (hw _ (List.mem_of_getElem? (i := 53) rfl))) (mvT hZ (hw _ (List.mem_of_getElem? (i := 52) rfl))) (by decide) (backOf (W := 0) (rm9 l Z a0 hw [] b44 (0 : Int32) ee T46.heap n0 F46_position F46_end ) hZ (hw _ (List.mem_of_getElem? (i := 54) rfl)) (hw _ (List.mem_of_getElem? (i := 33) rfl)) (by decide) (by decide)) q54a q54c (g := (mkF m 190 #[.val (.int p0), .val (.int p1), .val (.long q2), .second, .val (.int p3), .val (.int ee), .val (.int kk), .val (.ref b1), .val (.ref r41), .val (.ref b44), .val (.long (0 : Int64)), .second, .val (.int rr), .val (.long ag), .second, .val (.int (f8_0 ag ee (0 : Int32))), .val (.int (f8_0 (rr.toInt64) ee (0 : Int32))), .unset] [(.ref b44)])) rfl (by rw [hml]; rfl) (Steps.refl _) (argsL := []) (rest := []) (lenOf pd0_4 rfl) rfl (by show 2 * 0 + _ ≤ _; exact Nat.le_of_eq rfl) (hb hby at_190) (fun _ _ => ⟨rfl, e52, (by decide : 4 + 0 ≤ _), (by decide : 16 + 0 ≤ _)⟩)
    dsimp only [Pt.U, Pt.locs, Pt.cells, Pt.slots] at X54 l54 y54 z54 st54 hQ54
    subst l54 y54 z54
    obtain ⟨rfl, N54q, e54⟩ := hQ54
    have N54 := Fr.app NL53 N54q
    refine own_step (fun t k => st54.trans k) ?_
    obtain ⟨LL55, XL55, NL55⟩ : ∃ LL, Stand p l e room_1 s m #[(.int p0), (.int p1), (.long q2), (.int p3)] below meth c T54 LL 4 16 ∧ Fr n0 LL := ⟨_, X54, N54⟩
    show own_Ends p e below s _ _ _ (T54.setTop (mkF m 193 #[.val (.int p0), .val (.int p1), .val (.long q2), .second, .val (.int p3), .val (.int ee), .val (.int kk), .val (.ref b1), .val (.ref r41), .val (.ref b44), .val (.long (0 : Int64)), .second, .val (.int rr), .val (.long ag), .second, .val (.int (f8_0 ag ee (0 : Int32))), .val (.int (f8_0 (rr.toInt64) ee (0 : Int32))), .unset] [(.int (f9_0 (0 : Int32) ee))]))
    refine own_step (fun t k => XS.istore XL55.here hx rfl (hb hby at_193) rfl (l' := #[.val (.int p0), .val (.int p1), .val (.long q2), .second, .val (.int p3), .val (.int ee), .val (.int kk), .val (.ref b1), .val (.ref r41), .val (.ref b44), .val (.long (0 : Int64)), .second, .val (.int rr), .val (.long ag), .second, .val (.int (f8_0 ag ee (0 : Int32))), .val (.int (f8_0 (rr.toInt64) ee (0 : Int32))), .val (.int (f9_0 (0 : Int32) ee))]) rfl k) ?_
    show own_Ends p e below s _ _ _ (T54.setTop (mkF m 195 #[.val (.int p0), .val (.int p1), .val (.long q2), .second, .val (.int p3), .val (.int ee), .val (.int kk), .val (.ref b1), .val (.ref r41), .val (.ref b44), .val (.long (0 : Int64)), .second, .val (.int rr), .val (.long ag), .second, .val (.int (f8_0 ag ee (0 : Int32))), .val (.int (f8_0 (rr.toInt64) ee (0 : Int32))), .val (.int (f9_0 (0 : Int32) ee))] []))
    refine own_step (fun t k => XS.lload XL55.here hx rfl (hb hby at_195) rfl k) ?_
    show own_Ends p e below s _ _ _ (T54.setTop (mkF m 197 #[.val (.int p0), .val (.int p1), .val (.long q2), .second, .val (.int p3), .val (.int ee), .val (.int kk), .val (.ref b1), .val (.ref r41), .val (.ref b44), .val (.long (0 : Int64)), .second, .val (.int rr), .val (.long ag), .second, .val (.int (f8_0 ag ee (0 : Int32))), .val (.int (f8_0 (rr.toInt64) ee (0 : Int32))), .val (.int (f9_0 (0 : Int32) ee))] [(.long (0 : Int64))]))
    refine own_step (fun t k => XS.lconst XL55.here hx rfl (hb hby at_197) k) ?_
    show own_Ends p e below s _ _ _ (T54.setTop (mkF m 198 #[.val (.int p0), .val (.int p1), .val (.long q2), .second, .val (.int p3), .val (.int ee), .val (.int kk), .val (.ref b1), .val (.ref r41), .val (.ref b44), .val (.long (0 : Int64)), .second, .val (.int rr), .val (.long ag), .second, .val (.int (f8_0 ag ee (0 : Int32))), .val (.int (f8_0 (rr.toInt64) ee (0 : Int32))), .val (.int (f9_0 (0 : Int32) ee))] [(.long (0 : Int64)), (.long (0 : Int64))]))
    refine own_step (fun t k => XS.lcmp XL55.here hx rfl (hb hby at_198) rfl k) ?_
    show own_Ends p e below s _ _ _ (T54.setTop (mkF m 199 #[.val (.int p0), .val (.int p1), .val (.long q2), .second, .val (.int p3), .val (.int ee), .val (.int kk), .val (.ref b1), .val (.ref r41), .val (.ref b44), .val (.long (0 : Int64)), .second, .val (.int rr), .val (.long ag), .second, .val (.int (f8_0 ag ee (0 : Int32))), .val (.int (f8_0 (rr.toInt64) ee (0 : Int32))), .val (.int (f9_0 (0 : Int32) ee))] [(.int (lcmpW (0 : Int64) (0 : Int64)))]))
    refine own_step (fun t k => XS.ifNo XL55.here hx rfl (hb hby at_199) rfl ((if0 _ _).trans (teq ((lw_eq (0 : Int64) (0 : Int64)).mpr rfl)).2) k) ?_
    show own_Ends p e below s _ _ _ (T54.setTop (mkF m 202 #[.val (.int p0), .val (.int p1), .val (.long q2), .second, .val (.int p3), .val (.int ee), .val (.int kk), .val (.ref b1), .val (.ref r41), .val (.ref b44), .val (.long (0 : Int64)), .second, .val (.int rr), .val (.long ag), .second, .val (.int (f8_0 ag ee (0 : Int32))), .val (.int (f8_0 (rr.toInt64) ee (0 : Int32))), .val (.int (f9_0 (0 : Int32) ee))] []))
    refine own_step (fun t k => XS.iload XL55.here hx rfl (hb hby at_202) rfl k) ?_
    show own_Ends p e below s _ _ _ (T54.setTop (mkF m 204 #[.val (.int p0), .val (.int p1), .val (.long q2), .second, .val (.int p3), .val (.int ee), .val (.int kk), .val (.ref b1), .val (.ref r41), .val (.ref b44), .val (.long (0 : Int64)), .second, .val (.int rr), .val (.long ag), .second, .val (.int (f8_0 ag ee (0 : Int32))), .val (.int (f8_0 (rr.toInt64) ee (0 : Int32))), .val (.int (f9_0 (0 : Int32) ee))] [(.int (f8_0 ag ee (0 : Int32)))]))
    refine own_step (fun t k => XS.lload XL55.here hx rfl (hb hby at_204) rfl k) ?_
    show own_Ends p e below s _ _ _ (T54.setTop (mkF m 206 #[.val (.int p0), .val (.int p1), .val (.long q2), .second, .val (.int p3), .val (.int ee), .val (.int kk), .val (.ref b1), .val (.ref r41), .val (.ref b44), .val (.long (0 : Int64)), .second, .val (.int rr), .val (.long ag), .second, .val (.int (f8_0 ag ee (0 : Int32))), .val (.int (f8_0 (rr.toInt64) ee (0 : Int32))), .val (.int (f9_0 (0 : Int32) ee))] [(.long ag), (.int (f8_0 ag ee (0 : Int32)))]))
    refine own_step (fun t k => XS.l2i XL55.here hx rfl (hb hby at_206) rfl k) ?_
    show own_Ends p e below s _ _ _ (T54.setTop (mkF m 207 #[.val (.int p0), .val (.int p1), .val (.long q2), .second, .val (.int p3), .val (.int ee), .val (.int kk), .val (.ref b1), .val (.ref r41), .val (.ref b44), .val (.long (0 : Int64)), .second, .val (.int rr), .val (.long ag), .second, .val (.int (f8_0 ag ee (0 : Int32))), .val (.int (f8_0 (rr.toInt64) ee (0 : Int32))), .val (.int (f9_0 (0 : Int32) ee))] [(.int (ag.toInt32)), (.int (f8_0 ag ee (0 : Int32)))]))
    refine own_step (fun t k => XS.icmpNo XL55.here hx rfl (hb hby at_207) rfl (teq rfl).2 k) ?_
    show own_Ends p e below s _ _ _ (T54.setTop (mkF m 210 #[.val (.int p0), .val (.int p1), .val (.long q2), .second, .val (.int p3), .val (.int ee), .val (.int kk), .val (.ref b1), .val (.ref r41), .val (.ref b44), .val (.long (0 : Int64)), .second, .val (.int rr), .val (.long ag), .second, .val (.int (f8_0 ag ee (0 : Int32))), .val (.int (f8_0 (rr.toInt64) ee (0 : Int32))), .val (.int (f9_0 (0 : Int32) ee))] []))
    refine own_step (fun t k => XS.iload XL55.here hx rfl (hb hby at_210) rfl k) ?_
    show own_Ends p e below s _ _ _ (T54.setTop (mkF m 212 #[.val (.int p0), .val (.int p1), .val (.long q2), .second, .val (.int p3), .val (.int ee), .val (.int kk), .val (.ref b1), .val (.ref r41), .val (.ref b44), .val (.long (0 : Int64)), .second, .val (.int rr), .val (.long ag), .second, .val (.int (f8_0 ag ee (0 : Int32))), .val (.int (f8_0 (rr.toInt64) ee (0 : Int32))), .val (.int (f9_0 (0 : Int32) ee))] [(.int (f8_0 (rr.toInt64) ee (0 : Int32)))]))
    refine own_step (fun t k => XS.iload XL55.here hx rfl (hb hby at_212) rfl k) ?_
    show own_Ends p e below s _ _ _ (T54.setTop (mkF m 214 #[.val (.int p0), .val (.int p1), .val (.long q2), .second, .val (.int p3), .val (.int ee), .val (.int kk), .val (.ref b1), .val (.ref r41), .val (.ref b44), .val (.long (0 : Int64)), .second, .val (.int rr), .val (.long ag), .second, .val (.int (f8_0 ag ee (0 : Int32))), .val (.int (f8_0 (rr.toInt64) ee (0 : Int32))), .val (.int (f9_0 (0 : Int32) ee))] [(.int rr), (.int (f8_0 (rr.toInt64) ee (0 : Int32)))]))
    refine own_step (fun t k => XS.icmpNo XL55.here hx rfl (hb hby at_214) rfl (teq (own_back rr)).2 k) ?_
    show own_Ends p e below s _ _ _ (T54.setTop (mkF m 217 #[.val (.int p0), .val (.int p1), .val (.long q2), .second, .val (.int p3), .val (.int ee), .val (.int kk), .val (.ref b1), .val (.ref r41), .val (.ref b44), .val (.long (0 : Int64)), .second, .val (.int rr), .val (.long ag), .second, .val (.int (f8_0 ag ee (0 : Int32))), .val (.int (f8_0 (rr.toInt64) ee (0 : Int32))), .val (.int (f9_0 (0 : Int32) ee))] []))
    refine own_step (fun t k => XS.iload XL55.here hx rfl (hb hby at_217) rfl k) ?_
    show own_Ends p e below s _ _ _ (T54.setTop (mkF m 219 #[.val (.int p0), .val (.int p1), .val (.long q2), .second, .val (.int p3), .val (.int ee), .val (.int kk), .val (.ref b1), .val (.ref r41), .val (.ref b44), .val (.long (0 : Int64)), .second, .val (.int rr), .val (.long ag), .second, .val (.int (f8_0 ag ee (0 : Int32))), .val (.int (f8_0 (rr.toInt64) ee (0 : Int32))), .val (.int (f9_0 (0 : Int32) ee))] [(.int (f9_0 (0 : Int32) ee))]))
    refine own_step (fun t k => XS.iload XL55.here hx rfl (hb hby at_219) rfl k) ?_
    show own_Ends p e below s _ _ _ (T54.setTop (mkF m 221 #[.val (.int p0), .val (.int p1), .val (.long q2), .second, .val (.int p3), .val (.int ee), .val (.int kk), .val (.ref b1), .val (.ref r41), .val (.ref b44), .val (.long (0 : Int64)), .second, .val (.int rr), .val (.long ag), .second, .val (.int (f8_0 ag ee (0 : Int32))), .val (.int (f8_0 (rr.toInt64) ee (0 : Int32))), .val (.int (f9_0 (0 : Int32) ee))] [(.int kk), (.int (f9_0 (0 : Int32) ee))]))
    refine own_step (fun t k => XS.iload XL55.here hx rfl (hb hby at_221) rfl k) ?_
    show own_Ends p e below s _ _ _ (T54.setTop (mkF m 223 #[.val (.int p0), .val (.int p1), .val (.long q2), .second, .val (.int p3), .val (.int ee), .val (.int kk), .val (.ref b1), .val (.ref r41), .val (.ref b44), .val (.long (0 : Int64)), .second, .val (.int rr), .val (.long ag), .second, .val (.int (f8_0 ag ee (0 : Int32))), .val (.int (f8_0 (rr.toInt64) ee (0 : Int32))), .val (.int (f9_0 (0 : Int32) ee))] [(.int ee), (.int kk), (.int (f9_0 (0 : Int32) ee))]))
    by_cases hc223_56 : kk < ee
    · -- kk < ee
      refine own_step (fun t k => XS.icmpNo XL55.here hx rfl (hb hby at_223) rfl (tlt hc223_56).2.1 k) ?_
      show own_Ends p e below s _ _ _ (T54.setTop (mkF m 226 #[.val (.int p0), .val (.int p1), .val (.long q2), .second, .val (.int p3), .val (.int ee), .val (.int kk), .val (.ref b1), .val (.ref r41), .val (.ref b44), .val (.long (0 : Int64)), .second, .val (.int rr), .val (.long ag), .second, .val (.int (f8_0 ag ee (0 : Int32))), .val (.int (f8_0 (rr.toInt64) ee (0 : Int32))), .val (.int (f9_0 (0 : Int32) ee))] [(.int (f9_0 (0 : Int32) ee))]))
      refine own_step (fun t k => XS.iconst XL55.here hx rfl (hb hby at_226) k) ?_
      show own_Ends p e below s _ _ _ (T54.setTop (mkF m 227 #[.val (.int p0), .val (.int p1), .val (.long q2), .second, .val (.int p3), .val (.int ee), .val (.int kk), .val (.ref b1), .val (.ref r41), .val (.ref b44), .val (.long (0 : Int64)), .second, .val (.int rr), .val (.long ag), .second, .val (.int (f8_0 ag ee (0 : Int32))), .val (.int (f8_0 (rr.toInt64) ee (0 : Int32))), .val (.int (f9_0 (0 : Int32) ee))] [(.int (1 : Int32)), (.int (f9_0 (0 : Int32) ee))]))
      refine own_step (fun t k => XS.goto XL55.here hx rfl (pc0 := 227) (pc' := 231) rfl (hb hby at_227) (by decide) (by decide) k) ?_
      show own_Ends p e below s _ _ _ (T54.setTop (mkF m 231 #[.val (.int p0), .val (.int p1), .val (.long q2), .second, .val (.int p3), .val (.int ee), .val (.int kk), .val (.ref b1), .val (.ref r41), .val (.ref b44), .val (.long (0 : Int64)), .second, .val (.int rr), .val (.long ag), .second, .val (.int (f8_0 ag ee (0 : Int32))), .val (.int (f8_0 (rr.toInt64) ee (0 : Int32))), .val (.int (f9_0 (0 : Int32) ee))] [(.int (1 : Int32)), (.int (f9_0 (0 : Int32) ee))]))
      refine own_step (fun t k => XS.icmpNo XL55.here hx rfl (hb hby at_231) rfl (teq (if_pos (hk0 ▸ hc223_56))).2 k) ?_
      show own_Ends p e below s _ _ _ (T54.setTop (mkF m 234 #[.val (.int p0), .val (.int p1), .val (.long q2), .second, .val (.int p3), .val (.int ee), .val (.int kk), .val (.ref b1), .val (.ref r41), .val (.ref b44), .val (.long (0 : Int64)), .second, .val (.int rr), .val (.long ag), .second, .val (.int (f8_0 ag ee (0 : Int32))), .val (.int (f8_0 (rr.toInt64) ee (0 : Int32))), .val (.int (f9_0 (0 : Int32) ee))] []))
      refine own_step (fun t k => XS.iconst XL55.here hx rfl (hb hby at_234) k) ?_
      show own_Ends p e below s _ _ _ (T54.setTop (mkF m 235 #[.val (.int p0), .val (.int p1), .val (.long q2), .second, .val (.int p3), .val (.int ee), .val (.int kk), .val (.ref b1), .val (.ref r41), .val (.ref b44), .val (.long (0 : Int64)), .second, .val (.int rr), .val (.long ag), .second, .val (.int (f8_0 ag ee (0 : Int32))), .val (.int (f8_0 (rr.toInt64) ee (0 : Int32))), .val (.int (f9_0 (0 : Int32) ee))] [(.int (1 : Int32))]))
      refine own_step (fun t k => XS.goto XL55.here hx rfl (pc0 := 235) (pc' := 239) rfl (hb hby at_235) (by decide) (by decide) k) ?_
      show own_Ends p e below s _ _ _ (T54.setTop (mkF m 239 #[.val (.int p0), .val (.int p1), .val (.long q2), .second, .val (.int p3), .val (.int ee), .val (.int kk), .val (.ref b1), .val (.ref r41), .val (.ref b44), .val (.long (0 : Int64)), .second, .val (.int rr), .val (.long ag), .second, .val (.int (f8_0 ag ee (0 : Int32))), .val (.int (f8_0 (rr.toInt64) ee (0 : Int32))), .val (.int (f9_0 (0 : Int32) ee))] [(.int (1 : Int32))]))
      exact own_retN XL55 hx hlk (t := .boolean) hret (by simp) (hb hby at_239) (w := (1 : Int32)) (by decide) ⟨rfl, NL55⟩ (by decide) (by decide)
    · -- not kk < ee
      refine own_step (fun t k => XS.icmpYes XL55.here hx rfl (pc0 := 223) (pc' := 230) rfl (hb hby at_223) rfl (flt hc223_56).2.1 (by decide) (by decide) k) ?_
      show own_Ends p e below s _ _ _ (T54.setTop (mkF m 230 #[.val (.int p0), .val (.int p1), .val (.long q2), .second, .val (.int p3), .val (.int ee), .val (.int kk), .val (.ref b1), .val (.ref r41), .val (.ref b44), .val (.long (0 : Int64)), .second, .val (.int rr), .val (.long ag), .second, .val (.int (f8_0 ag ee (0 : Int32))), .val (.int (f8_0 (rr.toInt64) ee (0 : Int32))), .val (.int (f9_0 (0 : Int32) ee))] [(.int (f9_0 (0 : Int32) ee))]))
      refine own_step (fun t k => XS.iconst XL55.here hx rfl (hb hby at_230) k) ?_
      show own_Ends p e below s _ _ _ (T54.setTop (mkF m 231 #[.val (.int p0), .val (.int p1), .val (.long q2), .second, .val (.int p3), .val (.int ee), .val (.int kk), .val (.ref b1), .val (.ref r41), .val (.ref b44), .val (.long (0 : Int64)), .second, .val (.int rr), .val (.long ag), .second, .val (.int (f8_0 ag ee (0 : Int32))), .val (.int (f8_0 (rr.toInt64) ee (0 : Int32))), .val (.int (f9_0 (0 : Int32) ee))] [(.int (0 : Int32)), (.int (f9_0 (0 : Int32) ee))]))
      refine own_step (fun t k => XS.icmpNo XL55.here hx rfl (hb hby at_231) rfl (teq (if_neg (hk0 ▸ hc223_56))).2 k) ?_
      show own_Ends p e below s _ _ _ (T54.setTop (mkF m 234 #[.val (.int p0), .val (.int p1), .val (.long q2), .second, .val (.int p3), .val (.int ee), .val (.int kk), .val (.ref b1), .val (.ref r41), .val (.ref b44), .val (.long (0 : Int64)), .second, .val (.int rr), .val (.long ag), .second, .val (.int (f8_0 ag ee (0 : Int32))), .val (.int (f8_0 (rr.toInt64) ee (0 : Int32))), .val (.int (f9_0 (0 : Int32) ee))] []))
      refine own_step (fun t k => XS.iconst XL55.here hx rfl (hb hby at_234) k) ?_
      show own_Ends p e below s _ _ _ (T54.setTop (mkF m 235 #[.val (.int p0), .val (.int p1), .val (.long q2), .second, .val (.int p3), .val (.int ee), .val (.int kk), .val (.ref b1), .val (.ref r41), .val (.ref b44), .val (.long (0 : Int64)), .second, .val (.int rr), .val (.long ag), .second, .val (.int (f8_0 ag ee (0 : Int32))), .val (.int (f8_0 (rr.toInt64) ee (0 : Int32))), .val (.int (f9_0 (0 : Int32) ee))] [(.int (1 : Int32))]))
      refine own_step (fun t k => XS.goto XL55.here hx rfl (pc0 := 235) (pc' := 239) rfl (hb hby at_235) (by decide) (by decide) k) ?_
      show own_Ends p e below s _ _ _ (T54.setTop (mkF m 239 #[.val (.int p0), .val (.int p1), .val (.long q2), .second, .val (.int p3), .val (.int ee), .val (.int kk), .val (.ref b1), .val (.ref r41), .val (.ref b44), .val (.long (0 : Int64)), .second, .val (.int rr), .val (.long ag), .second, .val (.int (f8_0 ag ee (0 : Int32))), .val (.int (f8_0 (rr.toInt64) ee (0 : Int32))), .val (.int (f9_0 (0 : Int32) ee))] [(.int (1 : Int32))]))
      exact own_retN XL55 hx hlk (t := .boolean) hret (by simp) (hb hby at_239) (w := (1 : Int32)) (by decide) ⟨rfl, NL55⟩ (by decide) (by decide)
  · -- not kk < (1 : Int32)
    refine own_step (fun t k => XS.icmpNo XL48.here hx rfl (hb hby at_135) rfl (flt hc135_49).1 k) ?_
    show own_Ends p e below s _ _ _ (T46.setTop (mkF m 138 #[.val (.int p0), .val (.int p1), .val (.long q2), .second, .val (.int p3), .val (.int ee), .val (.int kk), .val (.ref b1), .val (.ref r41), .val (.ref b44), .val (.long (0 : Int64)), .second, .unset, .unset, .unset, .unset, .unset, .unset] []))
    refine own_step (fun t k => XS.aload XL48.here hx rfl (hb hby at_138) rfl rfl k) ?_
    show own_Ends p e below s _ _ _ (T46.setTop (mkF m 140 #[.val (.int p0), .val (.int p1), .val (.long q2), .second, .val (.int p3), .val (.int ee), .val (.int kk), .val (.ref b1), .val (.ref r41), .val (.ref b44), .val (.long (0 : Int64)), .second, .unset, .unset, .unset, .unset, .unset, .unset] [(.ref b44)]))
    have hK1 : 1 ≤ K := own_K1 hK hc135_49
    obtain ⟨cq57, kq57, q57a, q57b, q57c⟩ := isOf hZ rfl E46_0
    obtain ⟨_, _, ⟨T57, L57, k57, n57⟩, -, X57, ⟨Lc57, hQ57, l57, y57, z57⟩, st57⟩ := XL48.virtualBack hx (y := (⟨"com/example/weftline/weftline/runner/CompactWire$Body", "varint", "()J"⟩ : MethodName)) (z := (⟨"com/example/weftline/weftline/runner/CompactWire$Body", "varint", "()J"⟩ : MethodName)) hown (mvT hZ (hw _ (List.mem_of_getElem? (i := 55) rfl))) (mvT hZ (hw _ (List.mem_of_getElem? (i := 56) rfl))) (notFace_of_selects (args := #[]) (mvT hZ (hw _ (List.mem_of_getElem? (i := 58) rfl)))) (mvT hZ (hw _ (List.mem_of_getElem? (i := 58) rfl))) (mvT hZ (hw _ (List.mem_of_getElem? (i := 57) rfl))) (by decide) (backOf (W := 0) (rm10 l Z a0 hw [] b44 b1 ee (0 : Int32) 8 (own_cb K) 0 (K - 1) T46.heap n0 Z46 gn_b44 E46_0 F46_bytes F46_end F46_position u47 ne_b1_b44 (by decide) (by omega) (by omega) (by decide) (own_c1 hK1) (own_c2 hK1) (fun q => absurd q (by omega)) (own_c3 hK1 hKe he)) hZ (hw _ (List.mem_of_getElem? (i := 59) rfl)) (hw _ (List.mem_of_getElem? (i := 33) rfl)) (by decide) (by decide)) q57a q57c (g := (mkF m 140 #[.val (.int p0), .val (.int p1), .val (.long q2), .second, .val (.int p3), .val (.int ee), .val (.int kk), .val (.ref b1), .val (.ref r41), .val (.ref b44), .val (.long (0 : Int64)), .second, .unset, .unset, .unset, .unset, .unset, .unset] [(.ref b44)])) rfl (by rw [hml]; rfl) (Steps.refl _) (argsL := []) (rest := []) (lenOf pd0_5 rfl) rfl (by show 2 * 0 + _ ≤ _; exact Nat.le_of_eq rfl) (hb hby at_140) (fun _ _ => ⟨rfl, rfl, (by decide : 4 + 0 ≤ _), (by decide : 16 + 0 ≤ _)⟩)
    dsimp only [Pt.U, Pt.locs, Pt.cells, Pt.slots] at X57 l57 y57 z57 st57 hQ57
    subst l57 y57 z57
    obtain ⟨rfl, N57q, Z57, K57, E57_0, F57_bytes, F57_end, w57, hw57, F57_position⟩ := hQ57
    have N57 := Fr.app NL48 N57q
    have u58 := (u47.keep K57 (ninS ne_b1_b44 nin0))
    have hww : w57 = kk := own_wk hK hK1 hw57
    rw [hww] at F57_position
    refine own_step (fun t k => st57.trans k) ?_
    obtain ⟨LL59, XL59, NL59⟩ : ∃ LL, Stand p l e room_1 s m #[(.int p0), (.int p1), (.long q2), (.int p3)] below meth c T57 LL 4 16 ∧ Fr n0 LL := ⟨_, X57, N57⟩
    show own_Ends p e below s _ _ _ (T57.setTop (mkF m 143 #[.val (.int p0), .val (.int p1), .val (.long q2), .second, .val (.int p3), .val (.int ee), .val (.int kk), .val (.ref b1), .val (.ref r41), .val (.ref b44), .val (.long (0 : Int64)), .second, .unset, .unset, .unset, .unset, .unset, .unset] [(.long (own_acc (own_cb K) 0 ((K - 1) + 1)))]))
    refine own_step (fun t k => XS.lstore XL59.here hx rfl (hb hby at_143) rfl (l' := #[.val (.int p0), .val (.int p1), .val (.long q2), .second, .val (.int p3), .val (.int ee), .val (.int kk), .val (.ref b1), .val (.ref r41), .val (.ref b44), .val (.long (own_acc (own_cb K) 0 ((K - 1) + 1))), .second, .unset, .unset, .unset, .unset, .unset, .unset]) rfl k) ?_
    show own_Ends p e below s _ _ _ (T57.setTop (mkF m 145 #[.val (.int p0), .val (.int p1), .val (.long q2), .second, .val (.int p3), .val (.int ee), .val (.int kk), .val (.ref b1), .val (.ref r41), .val (.ref b44), .val (.long (own_acc (own_cb K) 0 ((K - 1) + 1))), .second, .unset, .unset, .unset, .unset, .unset, .unset] []))
    refine own_step (fun t k => XS.iload XL59.here hx rfl (hb hby at_145) rfl k) ?_
    show own_Ends p e below s _ _ _ (T57.setTop (mkF m 147 #[.val (.int p0), .val (.int p1), .val (.long q2), .second, .val (.int p3), .val (.int ee), .val (.int kk), .val (.ref b1), .val (.ref r41), .val (.ref b44), .val (.long (own_acc (own_cb K) 0 ((K - 1) + 1))), .second, .unset, .unset, .unset, .unset, .unset, .unset] [(.int ee)]))
    refine own_step (fun t k => XS.iload XL59.here hx rfl (hb hby at_147) rfl k) ?_
    show own_Ends p e below s _ _ _ (T57.setTop (mkF m 149 #[.val (.int p0), .val (.int p1), .val (.long q2), .second, .val (.int p3), .val (.int ee), .val (.int kk), .val (.ref b1), .val (.ref r41), .val (.ref b44), .val (.long (own_acc (own_cb K) 0 ((K - 1) + 1))), .second, .unset, .unset, .unset, .unset, .unset, .unset] [(.int kk), (.int ee)]))
    refine own_step (fun t k => XS.isub XL59.here hx rfl (hb hby at_149) rfl k) ?_
    show own_Ends p e below s _ _ _ (T57.setTop (mkF m 150 #[.val (.int p0), .val (.int p1), .val (.long q2), .second, .val (.int p3), .val (.int ee), .val (.int kk), .val (.ref b1), .val (.ref r41), .val (.ref b44), .val (.long (own_acc (own_cb K) 0 ((K - 1) + 1))), .second, .unset, .unset, .unset, .unset, .unset, .unset] [(.int (ee - kk))]))
    generalize hz_rr : (ee - kk) = rr
    have hr := own_r he hK hKe hz_rr
    show own_Ends p e below s _ _ _ (T57.setTop (mkF m 150 #[.val (.int p0), .val (.int p1), .val (.long q2), .second, .val (.int p3), .val (.int ee), .val (.int kk), .val (.ref b1), .val (.ref r41), .val (.ref b44), .val (.long (own_acc (own_cb K) 0 ((K - 1) + 1))), .second, .unset, .unset, .unset, .unset, .unset, .unset] [(.int rr)]))
    refine own_step (fun t k => XS.istore XL59.here hx rfl (hb hby at_150) rfl (l' := #[.val (.int p0), .val (.int p1), .val (.long q2), .second, .val (.int p3), .val (.int ee), .val (.int kk), .val (.ref b1), .val (.ref r41), .val (.ref b44), .val (.long (own_acc (own_cb K) 0 ((K - 1) + 1))), .second, .val (.int rr), .unset, .unset, .unset, .unset, .unset]) rfl k) ?_
    show own_Ends p e below s _ _ _ (T57.setTop (mkF m 152 #[.val (.int p0), .val (.int p1), .val (.long q2), .second, .val (.int p3), .val (.int ee), .val (.int kk), .val (.ref b1), .val (.ref r41), .val (.ref b44), .val (.long (own_acc (own_cb K) 0 ((K - 1) + 1))), .second, .val (.int rr), .unset, .unset, .unset, .unset, .unset] []))
    refine own_step (fun t k => XS.lloadN XL59.here hx rfl (hb hby at_152) rfl k) ?_
    show own_Ends p e below s _ _ _ (T57.setTop (mkF m 153 #[.val (.int p0), .val (.int p1), .val (.long q2), .second, .val (.int p3), .val (.int ee), .val (.int kk), .val (.ref b1), .val (.ref r41), .val (.ref b44), .val (.long (own_acc (own_cb K) 0 ((K - 1) + 1))), .second, .val (.int rr), .unset, .unset, .unset, .unset, .unset] [(.long q2)]))
    refine own_step (fun t k => XL59.ldc2Long hx hown (mvT hZ (hw _ (List.mem_of_getElem? (i := 42) rfl))) (g := (mkF m 153 #[.val (.int p0), .val (.int p1), .val (.long q2), .second, .val (.int p3), .val (.int ee), .val (.int kk), .val (.ref b1), .val (.ref r41), .val (.ref b44), .val (.long (own_acc (own_cb K) 0 ((K - 1) + 1))), .second, .val (.int rr), .unset, .unset, .unset, .unset, .unset] [(.long q2)])) rfl (hb hby at_153) t k) ?_
    show own_Ends p e below s _ _ _ (T57.setTop (mkF m 156 #[.val (.int p0), .val (.int p1), .val (.long q2), .second, .val (.int p3), .val (.int ee), .val (.int kk), .val (.ref b1), .val (.ref r41), .val (.ref b44), .val (.long (own_acc (own_cb K) 0 ((K - 1) + 1))), .second, .val (.int rr), .unset, .unset, .unset, .unset, .unset] [(.long (9223372036854775807 : Int64)), (.long q2)]))
    refine own_step (fun t k => XS.land XL59.here hx rfl (hb hby at_156) rfl k) ?_
    show own_Ends p e below s _ _ _ (T57.setTop (mkF m 157 #[.val (.int p0), .val (.int p1), .val (.long q2), .second, .val (.int p3), .val (.int ee), .val (.int kk), .val (.ref b1), .val (.ref r41), .val (.ref b44), .val (.long (own_acc (own_cb K) 0 ((K - 1) + 1))), .second, .val (.int rr), .unset, .unset, .unset, .unset, .unset] [(.long (q2 &&& (9223372036854775807 : Int64)))]))
    refine own_step (fun t k => XS.iload XL59.here hx rfl (hb hby at_157) rfl k) ?_
    show own_Ends p e below s _ _ _ (T57.setTop (mkF m 159 #[.val (.int p0), .val (.int p1), .val (.long q2), .second, .val (.int p3), .val (.int ee), .val (.int kk), .val (.ref b1), .val (.ref r41), .val (.ref b44), .val (.long (own_acc (own_cb K) 0 ((K - 1) + 1))), .second, .val (.int rr), .unset, .unset, .unset, .unset, .unset] [(.int rr), (.long (q2 &&& (9223372036854775807 : Int64)))]))
    refine own_step (fun t k => XS.iconst XL59.here hx rfl (hb hby at_159) k) ?_
    show own_Ends p e below s _ _ _ (T57.setTop (mkF m 160 #[.val (.int p0), .val (.int p1), .val (.long q2), .second, .val (.int p3), .val (.int ee), .val (.int kk), .val (.ref b1), .val (.ref r41), .val (.ref b44), .val (.long (own_acc (own_cb K) 0 ((K - 1) + 1))), .second, .val (.int rr), .unset, .unset, .unset, .unset, .unset] [(.int (1 : Int32)), (.int rr), (.long (q2 &&& (9223372036854775807 : Int64)))]))
    refine own_step (fun t k => XS.iadd XL59.here hx rfl (hb hby at_160) rfl k) ?_
    show own_Ends p e below s _ _ _ (T57.setTop (mkF m 161 #[.val (.int p0), .val (.int p1), .val (.long q2), .second, .val (.int p3), .val (.int ee), .val (.int kk), .val (.ref b1), .val (.ref r41), .val (.ref b44), .val (.long (own_acc (own_cb K) 0 ((K - 1) + 1))), .second, .val (.int rr), .unset, .unset, .unset, .unset, .unset] [(.int (rr + (1 : Int32))), (.long (q2 &&& (9223372036854775807 : Int64)))]))
    refine own_step (fun t k => XS.i2l XL59.here hx rfl (hb hby at_161) rfl k) ?_
    show own_Ends p e below s _ _ _ (T57.setTop (mkF m 162 #[.val (.int p0), .val (.int p1), .val (.long q2), .second, .val (.int p3), .val (.int ee), .val (.int kk), .val (.ref b1), .val (.ref r41), .val (.ref b44), .val (.long (own_acc (own_cb K) 0 ((K - 1) + 1))), .second, .val (.int rr), .unset, .unset, .unset, .unset, .unset] [(.long ((rr + (1 : Int32)).toInt64)), (.long (q2 &&& (9223372036854775807 : Int64)))]))
    refine own_step (fun t k => own_lrem XL59 hx rfl (hb hby at_162) rfl (own_ne2 hr) k) ?_
    show own_Ends p e below s _ _ _ (T57.setTop (mkF m 163 #[.val (.int p0), .val (.int p1), .val (.long q2), .second, .val (.int p3), .val (.int ee), .val (.int kk), .val (.ref b1), .val (.ref r41), .val (.ref b44), .val (.long (own_acc (own_cb K) 0 ((K - 1) + 1))), .second, .val (.int rr), .unset, .unset, .unset, .unset, .unset] [(.long ((q2 &&& (9223372036854775807 : Int64)) % ((rr + (1 : Int32)).toInt64)))]))
    generalize hz_ag : ((q2 &&& (9223372036854775807 : Int64)) % ((rr + (1 : Int32)).toInt64)) = ag
    have ha := own_ag hr hz_ag
    clear hz_ag
    show own_Ends p e below s _ _ _ (T57.setTop (mkF m 163 #[.val (.int p0), .val (.int p1), .val (.long q2), .second, .val (.int p3), .val (.int ee), .val (.int kk), .val (.ref b1), .val (.ref r41), .val (.ref b44), .val (.long (own_acc (own_cb K) 0 ((K - 1) + 1))), .second, .val (.int rr), .unset, .unset, .unset, .unset, .unset] [(.long ag)]))
    refine own_step (fun t k => XS.lstore XL59.here hx rfl (hb hby at_163) rfl (l' := #[.val (.int p0), .val (.int p1), .val (.long q2), .second, .val (.int p3), .val (.int ee), .val (.int kk), .val (.ref b1), .val (.ref r41), .val (.ref b44), .val (.long (own_acc (own_cb K) 0 ((K - 1) + 1))), .second, .val (.int rr), .val (.long ag), .second, .unset, .unset, .unset]) rfl k) ?_
    show own_Ends p e below s _ _ _ (T57.setTop (mkF m 165 #[.val (.int p0), .val (.int p1), .val (.long q2), .second, .val (.int p3), .val (.int ee), .val (.int kk), .val (.ref b1), .val (.ref r41), .val (.ref b44), .val (.long (own_acc (own_cb K) 0 ((K - 1) + 1))), .second, .val (.int rr), .val (.long ag), .second, .unset, .unset, .unset] []))
    show own_Ends p e below s _ _ _ (T57.setTop (mkF m 165 #[.val (.int p0), .val (.int p1), .val (.long q2), .second, .val (.int p3), .val (.int ee), .val (.int kk), .val (.ref b1), .val (.ref r41), .val (.ref b44), .val (.long (own_acc (own_cb K) 0 ((K - 1) + 1))), .second, .val (.int rr), .val (.long ag), .second, .unset, .unset, .unset] []))
    refine own_step (fun t k => XS.aload XL59.here hx rfl (hb hby at_165) rfl rfl k) ?_
    show own_Ends p e below s _ _ _ (T57.setTop (mkF m 167 #[.val (.int p0), .val (.int p1), .val (.long q2), .second, .val (.int p3), .val (.int ee), .val (.int kk), .val (.ref b1), .val (.ref r41), .val (.ref b44), .val (.long (own_acc (own_cb K) 0 ((K - 1) + 1))), .second, .val (.int rr), .val (.long ag), .second, .unset, .unset, .unset] [(.ref b44)]))
    refine own_step (fun t k => XS.lload XL59.here hx rfl (hb hby at_167) rfl k) ?_
    show own_Ends p e below s _ _ _ (T57.setTop (mkF m 169 #[.val (.int p0), .val (.int p1), .val (.long q2), .second, .val (.int p3), .val (.int ee), .val (.int kk), .val (.ref b1), .val (.ref r41), .val (.ref b44), .val (.long (own_acc (own_cb K) 0 ((K - 1) + 1))), .second, .val (.int rr), .val (.long ag), .second, .unset, .unset, .unset] [(.long ag), (.ref b44)]))
    refine own_step (fun t k => XS.aload XL59.here hx rfl (hb hby at_169) rfl rfl k) ?_
    show own_Ends p e below s _ _ _ (T57.setTop (mkF m 171 #[.val (.int p0), .val (.int p1), .val (.long q2), .second, .val (.int p3), .val (.int ee), .val (.int kk), .val (.ref b1), .val (.ref r41), .val (.ref b44), .val (.long (own_acc (own_cb K) 0 ((K - 1) + 1))), .second, .val (.int rr), .val (.long ag), .second, .unset, .unset, .unset] [(.ref r41), (.long ag), (.ref b44)]))
    obtain ⟨cq60, kq60, q60a, q60b, q60c⟩ := isOf hZ rfl E57_0
    obtain ⟨_, _, ⟨T60, L60, k60, n60⟩, -, X60, ⟨Lc60, hQ60, l60, y60, z60⟩, st60⟩ := XL59.virtualBack hx (y := (⟨"com/example/weftline/weftline/runner/CompactWire$Body", "length", "(JLjava/lang/String;)I"⟩ : MethodName)) (z := (⟨"com/example/weftline/weftline/runner/CompactWire$Body", "length", "(JLjava/lang/String;)I"⟩ : MethodName)) hown (mvT hZ (hw _ (List.mem_of_getElem? (i := 43) rfl))) (mvT hZ (hw _ (List.mem_of_getElem? (i := 44) rfl))) (notFace_of_selects (args := #[]) (mvT hZ (hw _ (List.mem_of_getElem? (i := 46) rfl)))) (mvT hZ (hw _ (List.mem_of_getElem? (i := 46) rfl))) (mvT hZ (hw _ (List.mem_of_getElem? (i := 45) rfl))) (by decide) (backOf (W := 0) (rm8 l Z a0 hw [] b44 ag r41 ee kk T57.heap n0 F57_end F57_position (own_l0 ha) (own_l1 ha hz_rr)) hZ (hw _ (List.mem_of_getElem? (i := 47) rfl)) (hw _ (List.mem_of_getElem? (i := 33) rfl)) (by decide) (by decide)) q60a q60c (g := (mkF m 171 #[.val (.int p0), .val (.int p1), .val (.long q2), .second, .val (.int p3), .val (.int ee), .val (.int kk), .val (.ref b1), .val (.ref r41), .val (.ref b44), .val (.long (own_acc (own_cb K) 0 ((K - 1) + 1))), .second, .val (.int rr), .val (.long ag), .second, .unset, .unset, .unset] [(.ref r41), (.long ag), (.ref b44)])) rfl (by rw [hml]; rfl) (Steps.refl _) (argsL := [(.long ag), (.ref r41)]) (rest := []) (lenOf pd0_3 rfl) rfl (by show 2 * 0 + _ ≤ _; exact Nat.le_of_eq rfl) (hb hby at_171) (fun _ _ => ⟨rfl, rfl, (by decide : 4 + 0 ≤ _), (by decide : 16 + 0 ≤ _)⟩)
    dsimp only [Pt.U, Pt.locs, Pt.cells, Pt.slots] at X60 l60 y60 z60 st60 hQ60
    subst l60 y60 z60
    obtain ⟨rfl, N60q, e60⟩ := hQ60
    have N60 := Fr.app NL59 N60q
    refine own_step (fun t k => st60.trans k) ?_
    obtain ⟨LL61, XL61, NL61⟩ : ∃ LL, Stand p l e room_1 s m #[(.int p0), (.int p1), (.long q2), (.int p3)] below meth c T60 LL 4 16 ∧ Fr n0 LL := ⟨_, X60, N60⟩
    show own_Ends p e below s _ _ _ (T60.setTop (mkF m 174 #[.val (.int p0), .val (.int p1), .val (.long q2), .second, .val (.int p3), .val (.int ee), .val (.int kk), .val (.ref b1), .val (.ref r41), .val (.ref b44), .val (.long (own_acc (own_cb K) 0 ((K - 1) + 1))), .second, .val (.int rr), .val (.long ag), .second, .unset, .unset, .unset] [(.int (f8_0 ag ee kk))]))
    refine own_step (fun t k => XS.istore XL61.here hx rfl (hb hby at_174) rfl (l' := #[.val (.int p0), .val (.int p1), .val (.long q2), .second, .val (.int p3), .val (.int ee), .val (.int kk), .val (.ref b1), .val (.ref r41), .val (.ref b44), .val (.long (own_acc (own_cb K) 0 ((K - 1) + 1))), .second, .val (.int rr), .val (.long ag), .second, .val (.int (f8_0 ag ee kk)), .unset, .unset]) rfl k) ?_
    show own_Ends p e below s _ _ _ (T60.setTop (mkF m 176 #[.val (.int p0), .val (.int p1), .val (.long q2), .second, .val (.int p3), .val (.int ee), .val (.int kk), .val (.ref b1), .val (.ref r41), .val (.ref b44), .val (.long (own_acc (own_cb K) 0 ((K - 1) + 1))), .second, .val (.int rr), .val (.long ag), .second, .val (.int (f8_0 ag ee kk)), .unset, .unset] []))
    refine own_step (fun t k => XS.aload XL61.here hx rfl (hb hby at_176) rfl rfl k) ?_
    show own_Ends p e below s _ _ _ (T60.setTop (mkF m 178 #[.val (.int p0), .val (.int p1), .val (.long q2), .second, .val (.int p3), .val (.int ee), .val (.int kk), .val (.ref b1), .val (.ref r41), .val (.ref b44), .val (.long (own_acc (own_cb K) 0 ((K - 1) + 1))), .second, .val (.int rr), .val (.long ag), .second, .val (.int (f8_0 ag ee kk)), .unset, .unset] [(.ref b44)]))
    refine own_step (fun t k => XS.iload XL61.here hx rfl (hb hby at_178) rfl k) ?_
    show own_Ends p e below s _ _ _ (T60.setTop (mkF m 180 #[.val (.int p0), .val (.int p1), .val (.long q2), .second, .val (.int p3), .val (.int ee), .val (.int kk), .val (.ref b1), .val (.ref r41), .val (.ref b44), .val (.long (own_acc (own_cb K) 0 ((K - 1) + 1))), .second, .val (.int rr), .val (.long ag), .second, .val (.int (f8_0 ag ee kk)), .unset, .unset] [(.int rr), (.ref b44)]))
    refine own_step (fun t k => XS.i2l XL61.here hx rfl (hb hby at_180) rfl k) ?_
    show own_Ends p e below s _ _ _ (T60.setTop (mkF m 181 #[.val (.int p0), .val (.int p1), .val (.long q2), .second, .val (.int p3), .val (.int ee), .val (.int kk), .val (.ref b1), .val (.ref r41), .val (.ref b44), .val (.long (own_acc (own_cb K) 0 ((K - 1) + 1))), .second, .val (.int rr), .val (.long ag), .second, .val (.int (f8_0 ag ee kk)), .unset, .unset] [(.long (rr.toInt64)), (.ref b44)]))
    refine own_step (fun t k => XS.aload XL61.here hx rfl (hb hby at_181) rfl rfl k) ?_
    show own_Ends p e below s _ _ _ (T60.setTop (mkF m 183 #[.val (.int p0), .val (.int p1), .val (.long q2), .second, .val (.int p3), .val (.int ee), .val (.int kk), .val (.ref b1), .val (.ref r41), .val (.ref b44), .val (.long (own_acc (own_cb K) 0 ((K - 1) + 1))), .second, .val (.int rr), .val (.long ag), .second, .val (.int (f8_0 ag ee kk)), .unset, .unset] [(.ref r41), (.long (rr.toInt64)), (.ref b44)]))
    obtain ⟨cq62, kq62, q62a, q62b, q62c⟩ := isOf hZ e60 E57_0
    obtain ⟨_, _, ⟨T62, L62, k62, n62⟩, -, X62, ⟨Lc62, hQ62, l62, y62, z62⟩, st62⟩ := XL61.virtualBack hx (y := (⟨"com/example/weftline/weftline/runner/CompactWire$Body", "length", "(JLjava/lang/String;)I"⟩ : MethodName)) (z := (⟨"com/example/weftline/weftline/runner/CompactWire$Body", "length", "(JLjava/lang/String;)I"⟩ : MethodName)) hown (mvT hZ (hw _ (List.mem_of_getElem? (i := 43) rfl))) (mvT hZ (hw _ (List.mem_of_getElem? (i := 44) rfl))) (notFace_of_selects (args := #[]) (mvT hZ (hw _ (List.mem_of_getElem? (i := 46) rfl)))) (mvT hZ (hw _ (List.mem_of_getElem? (i := 46) rfl))) (mvT hZ (hw _ (List.mem_of_getElem? (i := 45) rfl))) (by decide) (backOf (W := 0) (rm8 l Z a0 hw [] b44 (rr.toInt64) r41 ee kk T57.heap n0 F57_end F57_position (own_l2 hr) (own_l3 hz_rr)) hZ (hw _ (List.mem_of_getElem? (i := 47) rfl)) (hw _ (List.mem_of_getElem? (i := 33) rfl)) (by decide) (by decide)) q62a q62c (g := (mkF m 183 #[.val (.int p0), .val (.int p1), .val (.long q2), .second, .val (.int p3), .val (.int ee), .val (.int kk), .val (.ref b1), .val (.ref r41), .val (.ref b44), .val (.long (own_acc (own_cb K) 0 ((K - 1) + 1))), .second, .val (.int rr), .val (.long ag), .second, .val (.int (f8_0 ag ee kk)), .unset, .unset] [(.ref r41), (.long (rr.toInt64)), (.ref b44)])) rfl (by rw [hml]; rfl) (Steps.refl _) (argsL := [(.long (rr.toInt64)), (.ref r41)]) (rest := []) (lenOf pd0_3 rfl) rfl (by show 2 * 0 + _ ≤ _; exact Nat.le_of_eq rfl) (hb hby at_183) (fun _ _ => ⟨rfl, e60, (by decide : 4 + 0 ≤ _), (by decide : 16 + 0 ≤ _)⟩)
    dsimp only [Pt.U, Pt.locs, Pt.cells, Pt.slots] at X62 l62 y62 z62 st62 hQ62
    subst l62 y62 z62
    obtain ⟨rfl, N62q, e62⟩ := hQ62
    have N62 := Fr.app NL61 N62q
    refine own_step (fun t k => st62.trans k) ?_
    obtain ⟨LL63, XL63, NL63⟩ : ∃ LL, Stand p l e room_1 s m #[(.int p0), (.int p1), (.long q2), (.int p3)] below meth c T62 LL 4 16 ∧ Fr n0 LL := ⟨_, X62, N62⟩
    show own_Ends p e below s _ _ _ (T62.setTop (mkF m 186 #[.val (.int p0), .val (.int p1), .val (.long q2), .second, .val (.int p3), .val (.int ee), .val (.int kk), .val (.ref b1), .val (.ref r41), .val (.ref b44), .val (.long (own_acc (own_cb K) 0 ((K - 1) + 1))), .second, .val (.int rr), .val (.long ag), .second, .val (.int (f8_0 ag ee kk)), .unset, .unset] [(.int (f8_0 (rr.toInt64) ee kk))]))
    refine own_step (fun t k => XS.istore XL63.here hx rfl (hb hby at_186) rfl (l' := #[.val (.int p0), .val (.int p1), .val (.long q2), .second, .val (.int p3), .val (.int ee), .val (.int kk), .val (.ref b1), .val (.ref r41), .val (.ref b44), .val (.long (own_acc (own_cb K) 0 ((K - 1) + 1))), .second, .val (.int rr), .val (.long ag), .second, .val (.int (f8_0 ag ee kk)), .val (.int (f8_0 (rr.toInt64) ee kk)), .unset]) rfl k) ?_
    show own_Ends p e below s _ _ _ (T62.setTop (mkF m 188 #[.val (.int p0), .val (.int p1), .val (.long q2), .second, .val (.int p3), .val (.int ee), .val (.int kk), .val (.ref b1), .val (.ref r41), .val (.ref b44), .val (.long (own_acc (own_cb K) 0 ((K - 1) + 1))), .second, .val (.int rr), .val (.long ag), .second, .val (.int (f8_0 ag ee kk)), .val (.int (f8_0 (rr.toInt64) ee kk)), .unset] []))
    refine own_step (fun t k => XS.aload XL63.here hx rfl (hb hby at_188) rfl rfl k) ?_
    show own_Ends p e below s _ _ _ (T62.setTop (mkF m 190 #[.val (.int p0), .val (.int p1), .val (.long q2), .second, .val (.int p3), .val (.int ee), .val (.int kk), .val (.ref b1), .val (.ref r41), .val (.ref b44), .val (.long (own_acc (own_cb K) 0 ((K - 1) + 1))), .second, .val (.int rr), .val (.long ag), .second, .val (.int (f8_0 ag ee kk)), .val (.int (f8_0 (rr.toInt64) ee kk)), .unset] [(.ref b44)]))
    obtain ⟨cq64, kq64, q64a, q64b, q64c⟩ := isOf hZ e62 E57_0
    obtain ⟨_, _, ⟨T64, L64, k64, n64⟩, -, X64, ⟨Lc64, hQ64, l64, y64, z64⟩, st64⟩ := XL63.virtualBack hx (y := (⟨"com/example/weftline/weftline/runner/CompactWire$Body", "more", "()Z"⟩ : MethodName)) (z := (⟨"com/example/weftline/weftline/runner/CompactWire$Body", "more", "()Z"⟩ : MethodName)) hown (mvT hZ (hw _ (List.mem_of_getElem? (i := 50) rfl))) (mvT hZ (hw _ (List.mem_of_getElem? (i := 51) rfl))) (notFace_of_selects (args := #[]) (mvT hZ (hw _ (List.mem_of_getElem? (i := 53) rfl)))) (mvT hZ (hw _ (List.mem_of_getElem? (i := 53) rfl))) (mvT hZ (hw _ (List.mem_of_getElem? (i := 52) rfl))) (by decide) (backOf (W := 0) (rm9 l Z a0 hw [] b44 kk ee T57.heap n0 F57_position F57_end ) hZ (hw _ (List.mem_of_getElem? (i := 54) rfl)) (hw _ (List.mem_of_getElem? (i := 33) rfl)) (by decide) (by decide)) q64a q64c (g := (mkF m 190 #[.val (.int p0), .val (.int p1), .val (.long q2), .second, .val (.int p3), .val (.int ee), .val (.int kk), .val (.ref b1), .val (.ref r41), .val (.ref b44), .val (.long (own_acc (own_cb K) 0 ((K - 1) + 1))), .second, .val (.int rr), .val (.long ag), .second, .val (.int (f8_0 ag ee kk)), .val (.int (f8_0 (rr.toInt64) ee kk)), .unset] [(.ref b44)])) rfl (by rw [hml]; rfl) (Steps.refl _) (argsL := []) (rest := []) (lenOf pd0_4 rfl) rfl (by show 2 * 0 + _ ≤ _; exact Nat.le_of_eq rfl) (hb hby at_190) (fun _ _ => ⟨rfl, e62, (by decide : 4 + 0 ≤ _), (by decide : 16 + 0 ≤ _)⟩)
    dsimp only [Pt.U, Pt.locs, Pt.cells, Pt.slots] at X64 l64 y64 z64 st64 hQ64
    subst l64 y64 z64
    obtain ⟨rfl, N64q, e64⟩ := hQ64
    have N64 := Fr.app NL63 N64q
    refine own_step (fun t k => st64.trans k) ?_
    obtain ⟨LL65, XL65, NL65⟩ : ∃ LL, Stand p l e room_1 s m #[(.int p0), (.int p1), (.long q2), (.int p3)] below meth c T64 LL 4 16 ∧ Fr n0 LL := ⟨_, X64, N64⟩
    show own_Ends p e below s _ _ _ (T64.setTop (mkF m 193 #[.val (.int p0), .val (.int p1), .val (.long q2), .second, .val (.int p3), .val (.int ee), .val (.int kk), .val (.ref b1), .val (.ref r41), .val (.ref b44), .val (.long (own_acc (own_cb K) 0 ((K - 1) + 1))), .second, .val (.int rr), .val (.long ag), .second, .val (.int (f8_0 ag ee kk)), .val (.int (f8_0 (rr.toInt64) ee kk)), .unset] [(.int (f9_0 kk ee))]))
    refine own_step (fun t k => XS.istore XL65.here hx rfl (hb hby at_193) rfl (l' := #[.val (.int p0), .val (.int p1), .val (.long q2), .second, .val (.int p3), .val (.int ee), .val (.int kk), .val (.ref b1), .val (.ref r41), .val (.ref b44), .val (.long (own_acc (own_cb K) 0 ((K - 1) + 1))), .second, .val (.int rr), .val (.long ag), .second, .val (.int (f8_0 ag ee kk)), .val (.int (f8_0 (rr.toInt64) ee kk)), .val (.int (f9_0 kk ee))]) rfl k) ?_
    show own_Ends p e below s _ _ _ (T64.setTop (mkF m 195 #[.val (.int p0), .val (.int p1), .val (.long q2), .second, .val (.int p3), .val (.int ee), .val (.int kk), .val (.ref b1), .val (.ref r41), .val (.ref b44), .val (.long (own_acc (own_cb K) 0 ((K - 1) + 1))), .second, .val (.int rr), .val (.long ag), .second, .val (.int (f8_0 ag ee kk)), .val (.int (f8_0 (rr.toInt64) ee kk)), .val (.int (f9_0 kk ee))] []))
    refine own_step (fun t k => XS.lload XL65.here hx rfl (hb hby at_195) rfl k) ?_
    show own_Ends p e below s _ _ _ (T64.setTop (mkF m 197 #[.val (.int p0), .val (.int p1), .val (.long q2), .second, .val (.int p3), .val (.int ee), .val (.int kk), .val (.ref b1), .val (.ref r41), .val (.ref b44), .val (.long (own_acc (own_cb K) 0 ((K - 1) + 1))), .second, .val (.int rr), .val (.long ag), .second, .val (.int (f8_0 ag ee kk)), .val (.int (f8_0 (rr.toInt64) ee kk)), .val (.int (f9_0 kk ee))] [(.long (own_acc (own_cb K) 0 ((K - 1) + 1)))]))
    refine own_step (fun t k => XS.lconst XL65.here hx rfl (hb hby at_197) k) ?_
    show own_Ends p e below s _ _ _ (T64.setTop (mkF m 198 #[.val (.int p0), .val (.int p1), .val (.long q2), .second, .val (.int p3), .val (.int ee), .val (.int kk), .val (.ref b1), .val (.ref r41), .val (.ref b44), .val (.long (own_acc (own_cb K) 0 ((K - 1) + 1))), .second, .val (.int rr), .val (.long ag), .second, .val (.int (f8_0 ag ee kk)), .val (.int (f8_0 (rr.toInt64) ee kk)), .val (.int (f9_0 kk ee))] [(.long (0 : Int64)), (.long (own_acc (own_cb K) 0 ((K - 1) + 1)))]))
    refine own_step (fun t k => XS.lcmp XL65.here hx rfl (hb hby at_198) rfl k) ?_
    show own_Ends p e below s _ _ _ (T64.setTop (mkF m 199 #[.val (.int p0), .val (.int p1), .val (.long q2), .second, .val (.int p3), .val (.int ee), .val (.int kk), .val (.ref b1), .val (.ref r41), .val (.ref b44), .val (.long (own_acc (own_cb K) 0 ((K - 1) + 1))), .second, .val (.int rr), .val (.long ag), .second, .val (.int (f8_0 ag ee kk)), .val (.int (f8_0 (rr.toInt64) ee kk)), .val (.int (f9_0 kk ee))] [(.int (lcmpW (own_acc (own_cb K) 0 ((K - 1) + 1)) (0 : Int64)))]))
    refine own_step (fun t k => XS.ifNo XL65.here hx rfl (hb hby at_199) rfl ((if0 _ _).trans (teq ((lw_eq (own_acc (own_cb K) 0 ((K - 1) + 1)) (0 : Int64)).mpr (own_z0 hK1))).2) k) ?_
    show own_Ends p e below s _ _ _ (T64.setTop (mkF m 202 #[.val (.int p0), .val (.int p1), .val (.long q2), .second, .val (.int p3), .val (.int ee), .val (.int kk), .val (.ref b1), .val (.ref r41), .val (.ref b44), .val (.long (own_acc (own_cb K) 0 ((K - 1) + 1))), .second, .val (.int rr), .val (.long ag), .second, .val (.int (f8_0 ag ee kk)), .val (.int (f8_0 (rr.toInt64) ee kk)), .val (.int (f9_0 kk ee))] []))
    refine own_step (fun t k => XS.iload XL65.here hx rfl (hb hby at_202) rfl k) ?_
    show own_Ends p e below s _ _ _ (T64.setTop (mkF m 204 #[.val (.int p0), .val (.int p1), .val (.long q2), .second, .val (.int p3), .val (.int ee), .val (.int kk), .val (.ref b1), .val (.ref r41), .val (.ref b44), .val (.long (own_acc (own_cb K) 0 ((K - 1) + 1))), .second, .val (.int rr), .val (.long ag), .second, .val (.int (f8_0 ag ee kk)), .val (.int (f8_0 (rr.toInt64) ee kk)), .val (.int (f9_0 kk ee))] [(.int (f8_0 ag ee kk))]))
    refine own_step (fun t k => XS.lload XL65.here hx rfl (hb hby at_204) rfl k) ?_
    show own_Ends p e below s _ _ _ (T64.setTop (mkF m 206 #[.val (.int p0), .val (.int p1), .val (.long q2), .second, .val (.int p3), .val (.int ee), .val (.int kk), .val (.ref b1), .val (.ref r41), .val (.ref b44), .val (.long (own_acc (own_cb K) 0 ((K - 1) + 1))), .second, .val (.int rr), .val (.long ag), .second, .val (.int (f8_0 ag ee kk)), .val (.int (f8_0 (rr.toInt64) ee kk)), .val (.int (f9_0 kk ee))] [(.long ag), (.int (f8_0 ag ee kk))]))
    refine own_step (fun t k => XS.l2i XL65.here hx rfl (hb hby at_206) rfl k) ?_
    show own_Ends p e below s _ _ _ (T64.setTop (mkF m 207 #[.val (.int p0), .val (.int p1), .val (.long q2), .second, .val (.int p3), .val (.int ee), .val (.int kk), .val (.ref b1), .val (.ref r41), .val (.ref b44), .val (.long (own_acc (own_cb K) 0 ((K - 1) + 1))), .second, .val (.int rr), .val (.long ag), .second, .val (.int (f8_0 ag ee kk)), .val (.int (f8_0 (rr.toInt64) ee kk)), .val (.int (f9_0 kk ee))] [(.int (ag.toInt32)), (.int (f8_0 ag ee kk))]))
    refine own_step (fun t k => XS.icmpNo XL65.here hx rfl (hb hby at_207) rfl (teq rfl).2 k) ?_
    show own_Ends p e below s _ _ _ (T64.setTop (mkF m 210 #[.val (.int p0), .val (.int p1), .val (.long q2), .second, .val (.int p3), .val (.int ee), .val (.int kk), .val (.ref b1), .val (.ref r41), .val (.ref b44), .val (.long (own_acc (own_cb K) 0 ((K - 1) + 1))), .second, .val (.int rr), .val (.long ag), .second, .val (.int (f8_0 ag ee kk)), .val (.int (f8_0 (rr.toInt64) ee kk)), .val (.int (f9_0 kk ee))] []))
    refine own_step (fun t k => XS.iload XL65.here hx rfl (hb hby at_210) rfl k) ?_
    show own_Ends p e below s _ _ _ (T64.setTop (mkF m 212 #[.val (.int p0), .val (.int p1), .val (.long q2), .second, .val (.int p3), .val (.int ee), .val (.int kk), .val (.ref b1), .val (.ref r41), .val (.ref b44), .val (.long (own_acc (own_cb K) 0 ((K - 1) + 1))), .second, .val (.int rr), .val (.long ag), .second, .val (.int (f8_0 ag ee kk)), .val (.int (f8_0 (rr.toInt64) ee kk)), .val (.int (f9_0 kk ee))] [(.int (f8_0 (rr.toInt64) ee kk))]))
    refine own_step (fun t k => XS.iload XL65.here hx rfl (hb hby at_212) rfl k) ?_
    show own_Ends p e below s _ _ _ (T64.setTop (mkF m 214 #[.val (.int p0), .val (.int p1), .val (.long q2), .second, .val (.int p3), .val (.int ee), .val (.int kk), .val (.ref b1), .val (.ref r41), .val (.ref b44), .val (.long (own_acc (own_cb K) 0 ((K - 1) + 1))), .second, .val (.int rr), .val (.long ag), .second, .val (.int (f8_0 ag ee kk)), .val (.int (f8_0 (rr.toInt64) ee kk)), .val (.int (f9_0 kk ee))] [(.int rr), (.int (f8_0 (rr.toInt64) ee kk))]))
    refine own_step (fun t k => XS.icmpNo XL65.here hx rfl (hb hby at_214) rfl (teq (own_back rr)).2 k) ?_
    show own_Ends p e below s _ _ _ (T64.setTop (mkF m 217 #[.val (.int p0), .val (.int p1), .val (.long q2), .second, .val (.int p3), .val (.int ee), .val (.int kk), .val (.ref b1), .val (.ref r41), .val (.ref b44), .val (.long (own_acc (own_cb K) 0 ((K - 1) + 1))), .second, .val (.int rr), .val (.long ag), .second, .val (.int (f8_0 ag ee kk)), .val (.int (f8_0 (rr.toInt64) ee kk)), .val (.int (f9_0 kk ee))] []))
    refine own_step (fun t k => XS.iload XL65.here hx rfl (hb hby at_217) rfl k) ?_
    show own_Ends p e below s _ _ _ (T64.setTop (mkF m 219 #[.val (.int p0), .val (.int p1), .val (.long q2), .second, .val (.int p3), .val (.int ee), .val (.int kk), .val (.ref b1), .val (.ref r41), .val (.ref b44), .val (.long (own_acc (own_cb K) 0 ((K - 1) + 1))), .second, .val (.int rr), .val (.long ag), .second, .val (.int (f8_0 ag ee kk)), .val (.int (f8_0 (rr.toInt64) ee kk)), .val (.int (f9_0 kk ee))] [(.int (f9_0 kk ee))]))
    refine own_step (fun t k => XS.iload XL65.here hx rfl (hb hby at_219) rfl k) ?_
    show own_Ends p e below s _ _ _ (T64.setTop (mkF m 221 #[.val (.int p0), .val (.int p1), .val (.long q2), .second, .val (.int p3), .val (.int ee), .val (.int kk), .val (.ref b1), .val (.ref r41), .val (.ref b44), .val (.long (own_acc (own_cb K) 0 ((K - 1) + 1))), .second, .val (.int rr), .val (.long ag), .second, .val (.int (f8_0 ag ee kk)), .val (.int (f8_0 (rr.toInt64) ee kk)), .val (.int (f9_0 kk ee))] [(.int kk), (.int (f9_0 kk ee))]))
    refine own_step (fun t k => XS.iload XL65.here hx rfl (hb hby at_221) rfl k) ?_
    show own_Ends p e below s _ _ _ (T64.setTop (mkF m 223 #[.val (.int p0), .val (.int p1), .val (.long q2), .second, .val (.int p3), .val (.int ee), .val (.int kk), .val (.ref b1), .val (.ref r41), .val (.ref b44), .val (.long (own_acc (own_cb K) 0 ((K - 1) + 1))), .second, .val (.int rr), .val (.long ag), .second, .val (.int (f8_0 ag ee kk)), .val (.int (f8_0 (rr.toInt64) ee kk)), .val (.int (f9_0 kk ee))] [(.int ee), (.int kk), (.int (f9_0 kk ee))]))
    by_cases hc223_66 : kk < ee
    · -- kk < ee
      refine own_step (fun t k => XS.icmpNo XL65.here hx rfl (hb hby at_223) rfl (tlt hc223_66).2.1 k) ?_
      show own_Ends p e below s _ _ _ (T64.setTop (mkF m 226 #[.val (.int p0), .val (.int p1), .val (.long q2), .second, .val (.int p3), .val (.int ee), .val (.int kk), .val (.ref b1), .val (.ref r41), .val (.ref b44), .val (.long (own_acc (own_cb K) 0 ((K - 1) + 1))), .second, .val (.int rr), .val (.long ag), .second, .val (.int (f8_0 ag ee kk)), .val (.int (f8_0 (rr.toInt64) ee kk)), .val (.int (f9_0 kk ee))] [(.int (f9_0 kk ee))]))
      refine own_step (fun t k => XS.iconst XL65.here hx rfl (hb hby at_226) k) ?_
      show own_Ends p e below s _ _ _ (T64.setTop (mkF m 227 #[.val (.int p0), .val (.int p1), .val (.long q2), .second, .val (.int p3), .val (.int ee), .val (.int kk), .val (.ref b1), .val (.ref r41), .val (.ref b44), .val (.long (own_acc (own_cb K) 0 ((K - 1) + 1))), .second, .val (.int rr), .val (.long ag), .second, .val (.int (f8_0 ag ee kk)), .val (.int (f8_0 (rr.toInt64) ee kk)), .val (.int (f9_0 kk ee))] [(.int (1 : Int32)), (.int (f9_0 kk ee))]))
      refine own_step (fun t k => XS.goto XL65.here hx rfl (pc0 := 227) (pc' := 231) rfl (hb hby at_227) (by decide) (by decide) k) ?_
      show own_Ends p e below s _ _ _ (T64.setTop (mkF m 231 #[.val (.int p0), .val (.int p1), .val (.long q2), .second, .val (.int p3), .val (.int ee), .val (.int kk), .val (.ref b1), .val (.ref r41), .val (.ref b44), .val (.long (own_acc (own_cb K) 0 ((K - 1) + 1))), .second, .val (.int rr), .val (.long ag), .second, .val (.int (f8_0 ag ee kk)), .val (.int (f8_0 (rr.toInt64) ee kk)), .val (.int (f9_0 kk ee))] [(.int (1 : Int32)), (.int (f9_0 kk ee))]))
      refine own_step (fun t k => XS.icmpNo XL65.here hx rfl (hb hby at_231) rfl (teq (if_pos hc223_66)).2 k) ?_
      show own_Ends p e below s _ _ _ (T64.setTop (mkF m 234 #[.val (.int p0), .val (.int p1), .val (.long q2), .second, .val (.int p3), .val (.int ee), .val (.int kk), .val (.ref b1), .val (.ref r41), .val (.ref b44), .val (.long (own_acc (own_cb K) 0 ((K - 1) + 1))), .second, .val (.int rr), .val (.long ag), .second, .val (.int (f8_0 ag ee kk)), .val (.int (f8_0 (rr.toInt64) ee kk)), .val (.int (f9_0 kk ee))] []))
      refine own_step (fun t k => XS.iconst XL65.here hx rfl (hb hby at_234) k) ?_
      show own_Ends p e below s _ _ _ (T64.setTop (mkF m 235 #[.val (.int p0), .val (.int p1), .val (.long q2), .second, .val (.int p3), .val (.int ee), .val (.int kk), .val (.ref b1), .val (.ref r41), .val (.ref b44), .val (.long (own_acc (own_cb K) 0 ((K - 1) + 1))), .second, .val (.int rr), .val (.long ag), .second, .val (.int (f8_0 ag ee kk)), .val (.int (f8_0 (rr.toInt64) ee kk)), .val (.int (f9_0 kk ee))] [(.int (1 : Int32))]))
      refine own_step (fun t k => XS.goto XL65.here hx rfl (pc0 := 235) (pc' := 239) rfl (hb hby at_235) (by decide) (by decide) k) ?_
      show own_Ends p e below s _ _ _ (T64.setTop (mkF m 239 #[.val (.int p0), .val (.int p1), .val (.long q2), .second, .val (.int p3), .val (.int ee), .val (.int kk), .val (.ref b1), .val (.ref r41), .val (.ref b44), .val (.long (own_acc (own_cb K) 0 ((K - 1) + 1))), .second, .val (.int rr), .val (.long ag), .second, .val (.int (f8_0 ag ee kk)), .val (.int (f8_0 (rr.toInt64) ee kk)), .val (.int (f9_0 kk ee))] [(.int (1 : Int32))]))
      exact own_retN XL65 hx hlk (t := .boolean) hret (by simp) (hb hby at_239) (w := (1 : Int32)) (by decide) ⟨rfl, NL65⟩ (by decide) (by decide)
    · -- not kk < ee
      refine own_step (fun t k => XS.icmpYes XL65.here hx rfl (pc0 := 223) (pc' := 230) rfl (hb hby at_223) rfl (flt hc223_66).2.1 (by decide) (by decide) k) ?_
      show own_Ends p e below s _ _ _ (T64.setTop (mkF m 230 #[.val (.int p0), .val (.int p1), .val (.long q2), .second, .val (.int p3), .val (.int ee), .val (.int kk), .val (.ref b1), .val (.ref r41), .val (.ref b44), .val (.long (own_acc (own_cb K) 0 ((K - 1) + 1))), .second, .val (.int rr), .val (.long ag), .second, .val (.int (f8_0 ag ee kk)), .val (.int (f8_0 (rr.toInt64) ee kk)), .val (.int (f9_0 kk ee))] [(.int (f9_0 kk ee))]))
      refine own_step (fun t k => XS.iconst XL65.here hx rfl (hb hby at_230) k) ?_
      show own_Ends p e below s _ _ _ (T64.setTop (mkF m 231 #[.val (.int p0), .val (.int p1), .val (.long q2), .second, .val (.int p3), .val (.int ee), .val (.int kk), .val (.ref b1), .val (.ref r41), .val (.ref b44), .val (.long (own_acc (own_cb K) 0 ((K - 1) + 1))), .second, .val (.int rr), .val (.long ag), .second, .val (.int (f8_0 ag ee kk)), .val (.int (f8_0 (rr.toInt64) ee kk)), .val (.int (f9_0 kk ee))] [(.int (0 : Int32)), (.int (f9_0 kk ee))]))
      refine own_step (fun t k => XS.icmpNo XL65.here hx rfl (hb hby at_231) rfl (teq (if_neg hc223_66)).2 k) ?_
      show own_Ends p e below s _ _ _ (T64.setTop (mkF m 234 #[.val (.int p0), .val (.int p1), .val (.long q2), .second, .val (.int p3), .val (.int ee), .val (.int kk), .val (.ref b1), .val (.ref r41), .val (.ref b44), .val (.long (own_acc (own_cb K) 0 ((K - 1) + 1))), .second, .val (.int rr), .val (.long ag), .second, .val (.int (f8_0 ag ee kk)), .val (.int (f8_0 (rr.toInt64) ee kk)), .val (.int (f9_0 kk ee))] []))
      refine own_step (fun t k => XS.iconst XL65.here hx rfl (hb hby at_234) k) ?_
      show own_Ends p e below s _ _ _ (T64.setTop (mkF m 235 #[.val (.int p0), .val (.int p1), .val (.long q2), .second, .val (.int p3), .val (.int ee), .val (.int kk), .val (.ref b1), .val (.ref r41), .val (.ref b44), .val (.long (own_acc (own_cb K) 0 ((K - 1) + 1))), .second, .val (.int rr), .val (.long ag), .second, .val (.int (f8_0 ag ee kk)), .val (.int (f8_0 (rr.toInt64) ee kk)), .val (.int (f9_0 kk ee))] [(.int (1 : Int32))]))
      refine own_step (fun t k => XS.goto XL65.here hx rfl (pc0 := 235) (pc' := 239) rfl (hb hby at_235) (by decide) (by decide) k) ?_
      show own_Ends p e below s _ _ _ (T64.setTop (mkF m 239 #[.val (.int p0), .val (.int p1), .val (.long q2), .second, .val (.int p3), .val (.int ee), .val (.int kk), .val (.ref b1), .val (.ref r41), .val (.ref b44), .val (.long (own_acc (own_cb K) 0 ((K - 1) + 1))), .second, .val (.int rr), .val (.long ag), .second, .val (.int (f8_0 ag ee kk)), .val (.int (f8_0 (rr.toInt64) ee kk)), .val (.int (f9_0 kk ee))] [(.int (1 : Int32))]))
      exact own_retN XL65 hx hlk (t := .boolean) hret (by simp) (hb hby at_239) (w := (1 : Int32)) (by decide) ⟨rfl, NL65⟩ (by decide) (by decide)
set_option maxRecDepth 65536 in
set_option maxHeartbeats 40000000 in
theorem comes_1 {Post : Tables → Env → Array Value → State → Outcome → State → Prop} (hpost : ∀ tb e args s v u, (limb_1_1.after args s (.returned v) u = true ∧ limb_1_2.after args s (.returned v) u = true ∧ True) → FrameEnd s (.returned v) u (Jvm.fieldLocs frame_1_writes args s ++ Jvm.arrayLocs frame_1_arrays args s ++ Jvm.staticLocs frame_1_statics s) 16 128 → Post tb e args s (.returned v) u) :
    ArmFor flags0 classFile x code maxLocals ret World_1 tables_1 room_1 Calls_1 rest_1 Pre_1 Post := by
  intro l hfl _ _ p e ha hc hk s m args below hf hA hF happ hP
  obtain ⟨hcalls, hrest, hpre⟩ := hP
  obtain ⟨-, -, -, hnamed, -, -, -, hat⟩ := (Spec.applies_iff hf).mp happ
  obtain ⟨hg, hn⟩ := and_e (Cond.before_iff.mp (show (Jvm.Cond.and given_1 narrow_1).before args s = true from hpre))
  obtain ⟨g0, hr0⟩ := and_e hg
  obtain ⟨g1, hr1⟩ := and_e hr0
  obtain ⟨g2, hr2⟩ := and_e hr1
  obtain ⟨g3, hr3⟩ := and_e hr2
  obtain ⟨w0, w1, w2, w3, rfl⟩ : ∃ w0 w1 w2 w3 : Value, args = #[w0, w1, w2, w3] := by
    have hs : args.size = 4 := by simpa [Cond.value, given_1] using g0
    obtain ⟨L⟩ := args
    match L, hs with
    | [w0, w1, w2, w3], _ => exact ⟨w0, w1, w2, w3, rfl⟩
  have hw := fun d (hd : d ∈ tables_1) => atoms_spec (ws := Jvm.Cond.code x code maxLocals ret :: tables_1) hat d (List.mem_cons_of_mem _ hd)
  obtain ⟨hsets, hown0⟩ := atoms_of _ (rest_1_c_eq ▸ (show rest_1_c.before _ s = true from hrest))
  have n3 := not_v (Cond.before_iff.mp (hsets _ (List.mem_of_getElem? (i := 2) rfl)))
  obtain ⟨i7, e6⟩ := is_v (Cond.before_iff.mp (hsets _ (List.mem_of_getElem? (i := 1) rfl)))
  have S8 : Sta s s.heap "java/lang/String" "COMPACT_STRINGS" "Z" (.int i7) := Sta.start e6 (Or.inl (hsets _ (List.mem_of_getElem? (i := 0) rfl)))
  have c9 : ¬ (i7 = (0 : Int32)) := gotF (Cond.eq_ints e6 (Term.int_eval (0))) n3
  obtain ⟨i0, ei0⟩ := is_v g1
  obtain rfl : w0 = (.int i0) := Option.some.inj ei0
  obtain ⟨i1, ei1⟩ := is_v g2
  obtain rfl : w1 = (.int i1) := Option.some.inj ei1
  obtain ⟨i2, ei2⟩ := isL_v g3
  obtain rfl : w2 = (.long i2) := Option.some.inj ei2
  obtain ⟨i3, ei3⟩ := is_v hr3
  obtain rfl : w3 = (.int i3) := Option.some.inj ei3
  obtain ⟨n, o, h1, h2, h3, _, L, rfl, ⟨rfl, N⟩, hq⟩ := rm0 l s _ hw tables_1 i0 i1 i2 i3 i7 s.heap s.heap.size (Nat.le_refl _) S8 c9 p e ha hc hk s m _ below hf ((Spec.applies_iff_loose hf).mp happ).1 ⟨rfl, State.Warmed39.refl s, rfl⟩ trivial
  refine ⟨n, _, h1, h2, h3, hpost _ _ _ _ _ _ ⟨Cond.after_iff.mpr rfl, Cond.after_iff.mpr (eq_i res_at (Term.int_eval (1)) rfl), trivial⟩ ⟨hq.1, hq.2.1, (hq.2.2.sift fun y hy => Or.inr (N y hy)).mono (by decide) (by decide)⟩⟩
theorem main_1_1 : Claimed_1_1 := comes_1 fun _ _ _ _ _ _ h hF => ⟨h.1, hF⟩
theorem main_1_2 : Claimed_1_2 := comes_1 fun _ _ _ _ _ _ h hF => ⟨h.2.1, hF⟩
end Jvm.Pilot.@@N@@
namespace Jvm.Pilot.@@N@@
open Jvm Jvm.ClassFile Sem Op Lib Jvm.Free Jvm.Stand Jvm.Pilot.@@N@@.Jvm.D
/-! MADE BY PROGRAM (witnessworld.py) out of the Statement's table words and the real class files: 17 classes; the members and pool entries that the words name. The judged class is class 1, her method 2. -/
namespace start1
open Jvm.ClassFile
def u (s : String) : CpInfo := .utf8 (stringToUtf16 s)
/-- a pool by its gaps: so many unusable entries, then the entry; so many at the end -/
def gap : Nat → List CpInfo → List CpInfo
  | 0, r => r
  | n + 1, r => .unusable :: gap n r
def poolList (es : List (Nat × CpInfo)) (last : Nat) : List CpInfo := es.foldr (fun e r => gap e.1 (e.2 :: r)) (gap last [])
def pool (es : List (Nat × CpInfo)) (last : Nat) : Array CpInfo := ⟨poolList es last⟩
def fileOf (pool : Array CpInfo) (this : Nat) (attrs : Array Attribute := #[]) (ms : Array MethodInfo := #[]) (fl : Nat := 33) (sup : Nat := 0) (ifs : Array Nat := #[]) (fds : Array FieldInfo := #[]) : ClassFile where
  minorVersion := 0
  majorVersion := 65
  constantPool := pool
  accessFlags := fl
  thisClass := this
  superClass := sup
  interfaces := ifs
  fields := fds
  methods := ms
  attributes := attrs
def plain (name : String) (sup : Option ClassId) : Class where
  name := name
  kind := .ordinary
  loader := none
  accessFlags := 33
  super := sup
  interfaces := #[]
  cf := none
  fields := #[]
  methods := #[]
  instanceTypes := #[]
  staticTypes := #[]
  resolved := #[]
  callSites := []
  init := .initialized
  statics := none
  mirror := none

def pool0 : Array CpInfo := pool [(5, u "<init>"), (0, u "()V"), (1, .class_ 10), (1, u "java/lang/Object")] 113

def k0c0 : Code := { maxStack := 0, maxLocals := 1, code := object_method_1_code, exceptionTable := #[], attributes := #[] }
def k0m0 : Method := { name := "<init>", desc := "()V", sig := { parameters := [], returnType := none }, accessFlags := 1, code := some k0c0 }
/-- java/lang/Object -/
def k0 : Class := { plain "java/lang/Object" none with
  accessFlags := 33
  interfaces := #[]
  cf := some (fileOf pool0 8 #[] #[{ accessFlags := 1, nameIndex := 5, descriptorIndex := 6, attributes := #[] }] 33 0 #[] #[])
  fields := #[]
  methods := #[k0m0]
  instanceTypes := #[]
  staticTypes := #[]
  resolved := Array.replicate 124 none
  statics := none }

def pool1 : Array CpInfo := pool [(2, .class_ 4), (1, u "java/lang/Object"), (0, u "<init>"), (0, u "()V"), (0, .integer 2147483647), (0, .methodref 9 10), (0, .class_ 11), (0, .nameAndType 12 13), (0, u "com/example/weftline/weftline/runner/BodyLengthPinLaw"), (0, u "cont"), (0, u "(II)B"), (0, .methodref 15 16), (0, .class_ 17), (0, .nameAndType 18 19), (0, u "java/lang/String"), (0, u "valueOf"), (0, u "(C)Ljava/lang/String;"), (0, .class_ 21), (0, u "com/example/weftline/weftline/runner/CompactWire$Body"), (0, .methodref 20 23), (0, .nameAndType 5 24), (0, u "([BI)V"), (0, .methodref 20 26), (0, .nameAndType 27 28), (0, u "varint"), (0, u "()J"), (2, .long 9223372036854775807), (1, .methodref 20 34), (0, .nameAndType 35 36), (0, u "length"), (0, u "(JLjava/lang/String;)I"), (0, .methodref 20 38), (0, .nameAndType 39 40), (0, u "more"), (0, u "()Z"), (3, u "law"), (0, u "(IIJI)Z")] 11

def k1m0 : Method := { name := "<init>", desc := "()V", sig := { parameters := [], returnType := none }, accessFlags := 2, code := none }
def k1c1 : Code := { maxStack := 3, maxLocals := 2, code := method_2_code, exceptionTable := #[], attributes := #[] }
def k1m1 : Method := { name := "cont", desc := "(II)B", sig := { parameters := [.int, .int], returnType := some .byte }, accessFlags := 10, code := some k1c1 }
def k1c2 : Code := { maxStack := 4, maxLocals := 18, code := code, exceptionTable := #[], attributes := #[] }
def k1m2 : Method := { name := "law", desc := "(IIJI)Z", sig := { parameters := [.int, .int, .long, .int], returnType := some .boolean }, accessFlags := 9, code := some k1c2 }
/-- com/example/weftline/weftline/runner/BodyLengthPinLaw -/
def k1 : Class := { plain "com/example/weftline/weftline/runner/BodyLengthPinLaw" (some 0) with
  accessFlags := 49
  interfaces := #[]
  cf := some (fileOf pool1 9 #[] #[{ accessFlags := 2, nameIndex := 5, descriptorIndex := 6, attributes := #[] }, { accessFlags := 10, nameIndex := 12, descriptorIndex := 13, attributes := #[] }, { accessFlags := 9, nameIndex := 44, descriptorIndex := 45, attributes := #[] }] 49 2 #[] #[])
  fields := #[]
  methods := #[k1m0, k1m1, k1m2]
  instanceTypes := #[]
  staticTypes := #[]
  resolved := Array.replicate 57 none
  statics := none }

def pool2 : Array CpInfo := pool [(1, .class_ 2), (0, u "java/io/Serializable"), (0, .class_ 4), (0, u "java/lang/Object")] 2

/-- java/io/Serializable -/
def k2 : Class := { plain "java/io/Serializable" (some 0) with
  accessFlags := 1537
  interfaces := #[]
  cf := some (fileOf pool2 1 #[] #[] 1537 3 #[] #[])
  fields := #[]
  methods := #[]
  instanceTypes := #[]
  staticTypes := #[]
  resolved := Array.replicate 7 none
  statics := none }

def pool3 : Array CpInfo := pool [(1, .class_ 2), (0, u "java/lang/Comparable"), (0, .class_ 4), (0, u "java/lang/Object")] 7

/-- java/lang/Comparable -/
def k3 : Class := { plain "java/lang/Comparable" (some 0) with
  accessFlags := 1537
  interfaces := #[]
  cf := some (fileOf pool3 1 #[] #[] 1537 3 #[] #[])
  fields := #[]
  methods := #[]
  instanceTypes := #[]
  staticTypes := #[]
  resolved := Array.replicate 12 none
  statics := none }

def pool4 : Array CpInfo := pool [(2, .class_ 4), (1, u "java/lang/CharSequence"), (42, .class_ 48), (0, u "java/lang/CharSequence$1CodePointIterator"), (10, .class_ 60), (0, u "java/lang/CharSequence$1CharIterator"), (5, .class_ 67), (0, u "java/lang/Object")] 63

/-- java/lang/CharSequence -/
def k4 : Class := { plain "java/lang/CharSequence" (some 0) with
  accessFlags := 1537
  interfaces := #[]
  cf := some (fileOf pool4 2 #[.nestMembers #[47, 59]] #[] 1537 66 #[] #[])
  fields := #[]
  methods := #[]
  instanceTypes := #[]
  staticTypes := #[]
  resolved := Array.replicate 131 none
  statics := none }

def pool5 : Array CpInfo := pool [(1, .class_ 2), (0, u "java/lang/constant/Constable"), (0, .class_ 4), (0, u "java/lang/Object")] 6

/-- java/lang/constant/Constable -/
def k5 : Class := { plain "java/lang/constant/Constable" (some 0) with
  accessFlags := 1537
  interfaces := #[]
  cf := some (fileOf pool5 1 #[] #[] 1537 3 #[] #[])
  fields := #[]
  methods := #[]
  instanceTypes := #[]
  staticTypes := #[]
  resolved := Array.replicate 11 none
  statics := none }

def pool6 : Array CpInfo := pool [(1, .class_ 2), (0, u "java/lang/constant/ConstantDesc"), (0, .class_ 4), (0, u "java/lang/Object")] 32

/-- java/lang/constant/ConstantDesc -/
def k6 : Class := { plain "java/lang/constant/ConstantDesc" (some 0) with
  accessFlags := 1537
  interfaces := #[]
  cf := some (fileOf pool6 1 #[] #[] 1537 3 #[] #[])
  fields := #[]
  methods := #[]
  instanceTypes := #[]
  staticTypes := #[]
  resolved := Array.replicate 37 none
  statics := none }

def pool7 : Array CpInfo := pool [(1, .methodref 2 3), (0, .class_ 4), (0, .nameAndType 5 6), (0, u "java/lang/Object"), (0, u "<init>"), (0, u "()V"), (2, .fieldref 10 11), (0, .class_ 12), (0, .nameAndType 13 14), (0, u "java/lang/String"), (0, u "value"), (0, u "[B"), (0, .fieldref 10 16), (0, .nameAndType 17 18), (0, u "coder"), (0, u "B"), (2, u "hash"), (0, u "I"), (2, u "hashIsZero"), (0, u "Z"), (11, .fieldref 10 39), (0, .nameAndType 40 26), (0, u "COMPACT_STRINGS"), (12, u "toBytes"), (53, .class_ 109), (1, u "java/lang/StringLatin1"), (99, .methodref 10 210), (0, .nameAndType 5 211), (0, u "([BB)V"), (157, u "(C)Z"), (205, .class_ 576), (0, u "java/lang/CharSequence"), (22, u "CASE_INSENSITIVE_ORDER"), (0, u "Ljava/util/Comparator;"), (181, u "valueOf"), (0, u "(C)Ljava/lang/String;"), (231, .methodref 107 1016), (0, .nameAndType 1017 369), (0, u "canEncode"), (0, .methodref 107 1019), (0, .nameAndType 53 1020), (0, u "(C)[B"), (80, u "serialPersistentFields"), (0, u "[Ljava/io/ObjectStreamField;"), (0, .class_ 1104), (0, u "java/lang/String$CaseInsensitiveComparator"), (1, .class_ 1107), (0, u "java/io/Serializable"), (0, .class_ 1109), (0, u "java/lang/Comparable"), (0, .class_ 1111), (0, u "java/lang/constant/Constable"), (0, .class_ 1113), (0, u "java/lang/constant/ConstantDesc"), (2, u "serialVersionUID"), (0, u "J"), (3, u "REPL"), (0, u "C"), (2, u "LATIN1"), (1, u "UTF16")] 323

def k7m0 : Method := { name := "<init>", desc := "()V", sig := { parameters := [], returnType := none }, accessFlags := 1, code := none }
def k7c1 : Code := { maxStack := 4, maxLocals := 1, code := jdk_42_method_139_code, exceptionTable := #[], attributes := #[] }
def k7m1 : Method := { name := "valueOf", desc := "(C)Ljava/lang/String;", sig := { parameters := [.char], returnType := some (.object "java/lang/String") }, accessFlags := 9, code := some k7c1 }
def k7c2 : Code := { maxStack := 2, maxLocals := 3, code := jdk_42_method_151_code, exceptionTable := #[], attributes := #[] }
def k7m2 : Method := { name := "<init>", desc := "([BB)V", sig := { parameters := [(.array .byte), .byte], returnType := none }, accessFlags := 0, code := some k7c2 }
/-- java/lang/String -/
def k7 : Class := { plain "java/lang/String" (some 0) with
  accessFlags := 49
  interfaces := #[2, 3, 4, 5, 6]
  cf := some (fileOf pool7 10 #[.nestMembers #[1103]] #[{ accessFlags := 1, nameIndex := 5, descriptorIndex := 6, attributes := #[] }, { accessFlags := 9, nameIndex := 782, descriptorIndex := 783, attributes := #[] }, { accessFlags := 0, nameIndex := 5, descriptorIndex := 211, attributes := #[] }] 49 2 #[1106, 1108, 575, 1110, 1112] #[{ accessFlags := 18, nameIndex := 13, descriptorIndex := 14, attributes := #[] }, { accessFlags := 18, nameIndex := 17, descriptorIndex := 18, attributes := #[] }, { accessFlags := 2, nameIndex := 21, descriptorIndex := 22, attributes := #[] }, { accessFlags := 2, nameIndex := 25, descriptorIndex := 26, attributes := #[] }, { accessFlags := 26, nameIndex := 1116, descriptorIndex := 1117, attributes := #[] }, { accessFlags := 24, nameIndex := 40, descriptorIndex := 26, attributes := #[] }, { accessFlags := 26, nameIndex := 1101, descriptorIndex := 1102, attributes := #[] }, { accessFlags := 26, nameIndex := 1121, descriptorIndex := 1122, attributes := #[] }, { accessFlags := 25, nameIndex := 599, descriptorIndex := 600, attributes := #[] }, { accessFlags := 24, nameIndex := 1125, descriptorIndex := 18, attributes := #[] }, { accessFlags := 24, nameIndex := 1127, descriptorIndex := 18, attributes := #[] }])
  fields := #[{ name := "value", type := (.array .byte), accessFlags := 18, slot := 0, constantValue := 0 }, { name := "coder", type := .byte, accessFlags := 18, slot := 1, constantValue := 0 }, { name := "hash", type := .int, accessFlags := 2, slot := 2, constantValue := 0 }, { name := "hashIsZero", type := .boolean, accessFlags := 2, slot := 3, constantValue := 0 }, { name := "serialVersionUID", type := .long, accessFlags := 26, slot := 0, constantValue := 0 }, { name := "COMPACT_STRINGS", type := .boolean, accessFlags := 24, slot := 1, constantValue := 0 }, { name := "serialPersistentFields", type := (.array (.object "java/io/ObjectStreamField")), accessFlags := 26, slot := 2, constantValue := 0 }, { name := "REPL", type := .char, accessFlags := 26, slot := 3, constantValue := 0 }, { name := "CASE_INSENSITIVE_ORDER", type := (.object "java/util/Comparator"), accessFlags := 25, slot := 4, constantValue := 0 }, { name := "LATIN1", type := .byte, accessFlags := 24, slot := 5, constantValue := 0 }, { name := "UTF16", type := .byte, accessFlags := 24, slot := 6, constantValue := 0 }]
  methods := #[k7m0, k7m1, k7m2]
  instanceTypes := #[(.array .byte), .byte, .int, .boolean]
  staticTypes := #[.long, .boolean, (.array (.object "java/io/ObjectStreamField")), .char, (.object "java/util/Comparator"), .byte, .byte]
  resolved := Array.replicate 1451 none
  statics := some 0 }

def pool8 : Array CpInfo := pool [(4, .class_ 6), (1, u "java/lang/Object"), (0, u "<init>"), (0, u "()V"), (5, .class_ 16), (1, u "java/lang/StringLatin1"), (73, u "canEncode"), (14, u "(C)Z"), (15, u "$assertionsDisabled"), (0, u "Z"), (98, .class_ 223), (1, u "java/lang/StringLatin1$LinesSpliterator"), (156, u "toBytes"), (1, u "(C)[B"), (7, .class_ 391), (0, u "java/lang/StringLatin1$CharsSpliterator")] 3

def k8m0 : Method := { name := "<init>", desc := "()V", sig := { parameters := [], returnType := none }, accessFlags := 0, code := none }
def k8c1 : Code := { maxStack := 2, maxLocals := 1, code := jdk_43_method_3_code, exceptionTable := #[], attributes := #[] }
def k8m1 : Method := { name := "canEncode", desc := "(C)Z", sig := { parameters := [.char], returnType := some .boolean }, accessFlags := 9, code := some k8c1 }
def k8c2 : Code := { maxStack := 4, maxLocals := 1, code := jdk_43_method_46_code, exceptionTable := #[], attributes := #[] }
def k8m2 : Method := { name := "toBytes", desc := "(C)[B", sig := { parameters := [.char], returnType := some (.array .byte) }, accessFlags := 9, code := some k8c2 }
/-- java/lang/StringLatin1 -/
def k8 : Class := { plain "java/lang/StringLatin1" (some 0) with
  accessFlags := 48
  interfaces := #[]
  cf := some (fileOf pool8 14 #[.nestMembers #[390, 221]] #[{ accessFlags := 0, nameIndex := 7, descriptorIndex := 8, attributes := #[] }, { accessFlags := 9, nameIndex := 90, descriptorIndex := 105, attributes := #[] }, { accessFlags := 9, nameIndex := 380, descriptorIndex := 382, attributes := #[] }] 48 4 #[] #[{ accessFlags := 4120, nameIndex := 121, descriptorIndex := 122, attributes := #[] }])
  fields := #[{ name := "$assertionsDisabled", type := .boolean, accessFlags := 4120, slot := 0, constantValue := 0 }]
  methods := #[k8m0, k8m1, k8m2]
  instanceTypes := #[]
  staticTypes := #[.boolean]
  resolved := Array.replicate 395 none
  statics := none }

def pool9 : Array CpInfo := pool [(1, .class_ 2), (0, u "com/example/weftline/weftline/runner/CompactWire"), (0, .methodref 4 5), (0, .class_ 6), (0, .nameAndType 7 8), (0, u "java/lang/Object"), (0, u "<init>"), (0, u "()V"), (0, .fieldref 10 11), (0, .class_ 12), (0, .nameAndType 13 14), (0, u "com/example/weftline/weftline/runner/CompactWire$Body"), (0, u "bytes"), (0, u "[B"), (0, .fieldref 10 16), (0, .nameAndType 17 18), (0, u "end"), (0, u "I"), (0, .fieldref 10 20), (0, .nameAndType 21 18), (0, u "position"), (11, u "varint"), (0, u "()J"), (64, u "([BI)V"), (2, u "more"), (0, u "()Z"), (4, u "length"), (0, u "(JLjava/lang/String;)I")] 23

def k9c0 : Code := { maxStack := 2, maxLocals := 3, code := prog_30_method_1_code, exceptionTable := #[], attributes := #[] }
def k9m0 : Method := { name := "<init>", desc := "([BI)V", sig := { parameters := [(.array .byte), .int], returnType := none }, accessFlags := 0, code := some k9c0 }
def k9c1 : Code := { maxStack := 2, maxLocals := 1, code := prog_30_method_2_code, exceptionTable := #[], attributes := #[] }
def k9m1 : Method := { name := "more", desc := "()Z", sig := { parameters := [], returnType := some .boolean }, accessFlags := 0, code := some k9c1 }
def k9c2 : Code := { maxStack := 5, maxLocals := 5, code := prog_30_method_3_code, exceptionTable := #[], attributes := #[] }
def k9m2 : Method := { name := "varint", desc := "()J", sig := { parameters := [], returnType := some .long }, accessFlags := 0, code := some k9c2 }
def k9c3 : Code := { maxStack := 4, maxLocals := 4, code := prog_30_method_5_code, exceptionTable := #[], attributes := #[] }
def k9m3 : Method := { name := "length", desc := "(JLjava/lang/String;)I", sig := { parameters := [.long, (.object "java/lang/String")], returnType := some .int }, accessFlags := 0, code := some k9c3 }
/-- com/example/weftline/weftline/runner/CompactWire$Body -/
def k9 : Class := { plain "com/example/weftline/weftline/runner/CompactWire$Body" (some 0) with
  accessFlags := 48
  interfaces := #[]
  cf := some (fileOf pool9 10 #[.nestHost 1] #[{ accessFlags := 0, nameIndex := 7, descriptorIndex := 99, attributes := #[] }, { accessFlags := 0, nameIndex := 102, descriptorIndex := 103, attributes := #[] }, { accessFlags := 0, nameIndex := 33, descriptorIndex := 34, attributes := #[] }, { accessFlags := 0, nameIndex := 108, descriptorIndex := 109, attributes := #[] }] 48 4 #[] #[{ accessFlags := 18, nameIndex := 13, descriptorIndex := 14, attributes := #[] }, { accessFlags := 18, nameIndex := 17, descriptorIndex := 18, attributes := #[] }, { accessFlags := 2, nameIndex := 21, descriptorIndex := 18, attributes := #[] }])
  fields := #[{ name := "bytes", type := (.array .byte), accessFlags := 18, slot := 0, constantValue := 0 }, { name := "end", type := .int, accessFlags := 18, slot := 1, constantValue := 0 }, { name := "position", type := .int, accessFlags := 2, slot := 2, constantValue := 0 }]
  methods := #[k9m0, k9m1, k9m2, k9m3]
  instanceTypes := #[(.array .byte), .int, .int]
  staticTypes := #[]
  resolved := Array.replicate 133 none
  statics := none }

def pool10 : Array CpInfo := pool [(2, .class_ 4), (1, u "java/lang/Object"), (0, u "<init>"), (0, u "()V"), (17, .class_ 26), (1, u "jdk/internal/util/Preconditions"), (28, .class_ 56), (0, u "jdk/internal/util/Preconditions$4"), (57, .class_ 115), (0, u "jdk/internal/util/Preconditions$1"), (7, u "SIOOBE_FORMATTER"), (0, u "Ljava/util/function/BiFunction;"), (0, .class_ 126), (0, u "jdk/internal/util/Preconditions$2"), (3, u "AIOOBE_FORMATTER"), (0, .class_ 132), (0, u "jdk/internal/util/Preconditions$3"), (3, u "IOOBE_FORMATTER")] 57

def k10m0 : Method := { name := "<init>", desc := "()V", sig := { parameters := [], returnType := none }, accessFlags := 1, code := none }
/-- jdk/internal/util/Preconditions -/
def k10 : Class := { plain "jdk/internal/util/Preconditions" (some 0) with
  accessFlags := 33
  interfaces := #[]
  cf := some (fileOf pool10 24 #[.nestMembers #[55, 131, 125, 114]] #[{ accessFlags := 1, nameIndex := 5, descriptorIndex := 6, attributes := #[] }] 33 2 #[] #[{ accessFlags := 25, nameIndex := 123, descriptorIndex := 124, attributes := #[] }, { accessFlags := 25, nameIndex := 130, descriptorIndex := 124, attributes := #[] }, { accessFlags := 25, nameIndex := 136, descriptorIndex := 124, attributes := #[] }])
  fields := #[{ name := "SIOOBE_FORMATTER", type := (.object "java/util/function/BiFunction"), accessFlags := 25, slot := 0, constantValue := 0 }, { name := "AIOOBE_FORMATTER", type := (.object "java/util/function/BiFunction"), accessFlags := 25, slot := 1, constantValue := 0 }, { name := "IOOBE_FORMATTER", type := (.object "java/util/function/BiFunction"), accessFlags := 25, slot := 2, constantValue := 0 }]
  methods := #[k10m0]
  instanceTypes := #[]
  staticTypes := #[(.object "java/util/function/BiFunction"), (.object "java/util/function/BiFunction"), (.object "java/util/function/BiFunction")]
  resolved := Array.replicate 194 none
  statics := some 1 }

def pool11 : Array CpInfo := pool [(9, u "<init>"), (6, .class_ 18), (1, u "java/lang/Object"), (0, u "()V"), (1, .class_ 23), (1, u "jdk/internal/util/ArraysSupport"), (0, u "LOG2_ARRAY_LONG_INDEX_SCALE"), (0, u "I"), (2, u "U"), (0, u "Ljdk/internal/misc/Unsafe;"), (8, u "BIG_ENDIAN"), (0, u "Z"), (8, u "LOG2_BYTE_BIT_SIZE"), (4, u "LOG2_ARRAY_INT_INDEX_SCALE"), (54, u "JLA"), (0, u "Ljdk/internal/access/JavaLangAccess;"), (11, u "LOG2_ARRAY_BOOLEAN_INDEX_SCALE"), (9, u "LOG2_ARRAY_BYTE_INDEX_SCALE"), (5, u "LOG2_ARRAY_CHAR_INDEX_SCALE"), (5, u "LOG2_ARRAY_SHORT_INDEX_SCALE"), (18, u "LOG2_ARRAY_FLOAT_INDEX_SCALE"), (24, u "LOG2_ARRAY_DOUBLE_INDEX_SCALE"), (89, u "T_BOOLEAN"), (2, u "T_CHAR"), (1, u "T_FLOAT"), (1, u "T_DOUBLE"), (1, u "T_BYTE"), (1, u "T_SHORT"), (1, u "T_INT"), (1, u "T_LONG"), (1, u "SOFT_MAX_ARRAY_LENGTH")] 83

def k11m0 : Method := { name := "<init>", desc := "()V", sig := { parameters := [], returnType := none }, accessFlags := 2, code := none }
/-- jdk/internal/util/ArraysSupport -/
def k11 : Class := { plain "jdk/internal/util/ArraysSupport" (some 0) with
  accessFlags := 33
  interfaces := #[]
  cf := some (fileOf pool11 21 #[] #[{ accessFlags := 2, nameIndex := 9, descriptorIndex := 19, attributes := #[] }] 33 16 #[] #[{ accessFlags := 24, nameIndex := 28, descriptorIndex := 29, attributes := #[] }, { accessFlags := 26, nameIndex := 38, descriptorIndex := 39, attributes := #[] }, { accessFlags := 25, nameIndex := 121, descriptorIndex := 25, attributes := #[] }, { accessFlags := 25, nameIndex := 131, descriptorIndex := 25, attributes := #[] }, { accessFlags := 25, nameIndex := 137, descriptorIndex := 25, attributes := #[] }, { accessFlags := 25, nameIndex := 143, descriptorIndex := 25, attributes := #[] }, { accessFlags := 25, nameIndex := 53, descriptorIndex := 25, attributes := #[] }, { accessFlags := 25, nameIndex := 24, descriptorIndex := 25, attributes := #[] }, { accessFlags := 25, nameIndex := 162, descriptorIndex := 25, attributes := #[] }, { accessFlags := 25, nameIndex := 187, descriptorIndex := 25, attributes := #[] }, { accessFlags := 26, nameIndex := 48, descriptorIndex := 25, attributes := #[] }, { accessFlags := 25, nameIndex := 277, descriptorIndex := 25, attributes := #[] }, { accessFlags := 25, nameIndex := 280, descriptorIndex := 25, attributes := #[] }, { accessFlags := 25, nameIndex := 282, descriptorIndex := 25, attributes := #[] }, { accessFlags := 25, nameIndex := 284, descriptorIndex := 25, attributes := #[] }, { accessFlags := 25, nameIndex := 286, descriptorIndex := 25, attributes := #[] }, { accessFlags := 25, nameIndex := 288, descriptorIndex := 25, attributes := #[] }, { accessFlags := 25, nameIndex := 290, descriptorIndex := 25, attributes := #[] }, { accessFlags := 25, nameIndex := 292, descriptorIndex := 25, attributes := #[] }, { accessFlags := 26, nameIndex := 108, descriptorIndex := 109, attributes := #[] }, { accessFlags := 25, nameIndex := 294, descriptorIndex := 25, attributes := #[] }])
  fields := #[{ name := "U", type := (.object "jdk/internal/misc/Unsafe"), accessFlags := 24, slot := 0, constantValue := 0 }, { name := "BIG_ENDIAN", type := .boolean, accessFlags := 26, slot := 1, constantValue := 0 }, { name := "LOG2_ARRAY_BOOLEAN_INDEX_SCALE", type := .int, accessFlags := 25, slot := 2, constantValue := 0 }, { name := "LOG2_ARRAY_BYTE_INDEX_SCALE", type := .int, accessFlags := 25, slot := 3, constantValue := 0 }, { name := "LOG2_ARRAY_CHAR_INDEX_SCALE", type := .int, accessFlags := 25, slot := 4, constantValue := 0 }, { name := "LOG2_ARRAY_SHORT_INDEX_SCALE", type := .int, accessFlags := 25, slot := 5, constantValue := 0 }, { name := "LOG2_ARRAY_INT_INDEX_SCALE", type := .int, accessFlags := 25, slot := 6, constantValue := 0 }, { name := "LOG2_ARRAY_LONG_INDEX_SCALE", type := .int, accessFlags := 25, slot := 7, constantValue := 0 }, { name := "LOG2_ARRAY_FLOAT_INDEX_SCALE", type := .int, accessFlags := 25, slot := 8, constantValue := 0 }, { name := "LOG2_ARRAY_DOUBLE_INDEX_SCALE", type := .int, accessFlags := 25, slot := 9, constantValue := 0 }, { name := "LOG2_BYTE_BIT_SIZE", type := .int, accessFlags := 26, slot := 10, constantValue := 0 }, { name := "T_BOOLEAN", type := .int, accessFlags := 25, slot := 11, constantValue := 0 }, { name := "T_CHAR", type := .int, accessFlags := 25, slot := 12, constantValue := 0 }, { name := "T_FLOAT", type := .int, accessFlags := 25, slot := 13, constantValue := 0 }, { name := "T_DOUBLE", type := .int, accessFlags := 25, slot := 14, constantValue := 0 }, { name := "T_BYTE", type := .int, accessFlags := 25, slot := 15, constantValue := 0 }, { name := "T_SHORT", type := .int, accessFlags := 25, slot := 16, constantValue := 0 }, { name := "T_INT", type := .int, accessFlags := 25, slot := 17, constantValue := 0 }, { name := "T_LONG", type := .int, accessFlags := 25, slot := 18, constantValue := 0 }, { name := "JLA", type := (.object "jdk/internal/access/JavaLangAccess"), accessFlags := 26, slot := 19, constantValue := 0 }, { name := "SOFT_MAX_ARRAY_LENGTH", type := .int, accessFlags := 25, slot := 20, constantValue := 0 }]
  methods := #[k11m0]
  instanceTypes := #[]
  staticTypes := #[(.object "jdk/internal/misc/Unsafe"), .boolean, .int, .int, .int, .int, .int, .int, .int, .int, .int, .int, .int, .int, .int, .int, .int, .int, .int, (.object "jdk/internal/access/JavaLangAccess"), .int]
  resolved := Array.replicate 378 none
  statics := none }

def pool12 : Array CpInfo := pool [(1, u "java/lang/Cloneable"), (0, .class_ 1), (0, u "java/lang/Object"), (0, .class_ 3)] 3

/-- java/lang/Cloneable -/
def k12 : Class := { plain "java/lang/Cloneable" (some 0) with
  accessFlags := 1537
  interfaces := #[]
  cf := some (fileOf pool12 2 #[] #[] 1537 4 #[] #[])
  fields := #[]
  methods := #[]
  instanceTypes := #[]
  staticTypes := #[]
  resolved := Array.replicate 8 none
  statics := none }

/-- the primitive byte -/
def k13 : Class := { plain "byte" none with kind := .primitive 'B', accessFlags := 0x411 }
/-- [B -/
def k14 : Class := { plain "[B" (some 0) with kind := .array 13 .byte, interfaces := #[12, 2], accessFlags := 1041 }

/-- the primitive int -/
def k15 : Class := { plain "int" none with kind := .primitive 'I', accessFlags := 0x411 }
/-- [I -/
def k16 : Class := { plain "[I" (some 0) with kind := .array 15 .int, interfaces := #[12, 2], accessFlags := 1041 }

def heap : Heap := #[{ cls := 7, slots := #[.long 0, .int 1, .null, .int 0, .null, .int 0, .int 0], vm := .statics 7 },
  { cls := 10, slots := #[.null, .null, .null], vm := .statics 10 }]
def classes : Array Class := #[k0, k1, k2, k3, k4, k5, k6, k7, k8, k9, k10, k11, k12, k13, k14, k15, k16]
def interned : List (Array UInt16 × Addr) := []
def slotsUsed : Nat := 10
def theMethod : MethodId := ⟨1, 2⟩
def args0 : Array Value := #[.int 5, .int 6, .long 7, .int 65]
def aboutOver (below : List Frame) : State where
  vm := { classes := classes, interned := interned.toArray }
  heap := heap
  slotsUsed := slotsUsed
  threads := #[{ frames := .invoking theMethod args0 :: below }]
def below0 : List Frame := [.native { method := ⟨0, 0⟩, args := #[] }]
def about1 : State := aboutOver below0
def p0 : Program := .bare "" "" ""
def e0 : Env := launch0.env 0 0 0
theorem w_frames : about1.frames = Frame.invoking theMethod args0 :: below0 := rfl
set_option maxRecDepth 65536 in
theorem w_args : argsFit about1.vm theMethod args0 = true := by decide +kernel
set_option maxRecDepth 65536 in
theorem w_heap : heapFits about1 = true := by decide +kernel
set_option maxRecDepth 65536 in
theorem w_runnable : about1.curStatus? = some .runnable := by decide +kernel
set_option maxRecDepth 65536 in
theorem w_alone : about1.alone = true := by decide +kernel
set_option maxRecDepth 65536 in
theorem w_named : about1.methodNamed? x = some theMethod := by decide +kernel
set_option maxRecDepth 65536 in
theorem w_hears : about1.hears theMethod below0 = true := by decide +kernel
set_option maxRecDepth 65536 in
theorem w_ripe : about1.ripe theMethod args0 below0 = true := by decide +kernel
theorem w_running : about1.status = .running := rfl
set_option maxRecDepth 65536 in
theorem w_room : about1.hasRoom e0.platform room_1 = true :=
  launch0.hasRoom_least _ room_1 (by decide +kernel) (by decide +kernel) (by decide +kernel) (by decide +kernel) (by decide +kernel) (by decide +kernel)
theorem allAtoms_all (ts : List Jvm.Cond) (a : Array Jvm.Value) (st : Jvm.State) : (allAtoms ts).before a st = ts.all (fun c => c.before a st) := by
  induction ts with
  | nil => rfl
  | cons c t ih =>
    show (Jvm.Cond.and c (allAtoms t)).before a st = _
    rw [Jvm.Cond.before_and, ih, List.all_cons]
def words1 : List Jvm.Cond := Jvm.Cond.code x code maxLocals ret :: tables_1
/-- a 'code' word, met by the world's own term for the bytes: nothing is compared byte by byte -/
theorem code_word {y : MethodName} {bytes : ByteArray} {mx : Nat} {rt : Option FieldType} {a : Array Value} {s : State} {m : MethodId} {meth : Method} {c : Code} (h1 : s.methodNamed? y = some m) (h2 : s.vm.method? m = some meth) (h3 : meth.code = some c) (h4 : c.code = bytes)
    (h5 : (c.maxLocals == mx && c.exceptionTable.isEmpty && decide (c.maxStack ≤ mostOperands) && decide (meth.sig.returnType = rt) && !meth.locks && decide (parseMethodDescriptor y.desc = some meth.sig)) = true) : (Jvm.Cond.code y bytes mx rt).before a s = true := by
  simp only [Bool.and_eq_true, beq_iff_eq, Bool.not_eq_true', decide_eq_true_eq] at h5
  obtain ⟨⟨⟨⟨⟨g1, g2⟩, g3⟩, g4⟩, g5⟩, g6⟩ := h5
  simp [Cond.before, Cond.holds, Cond.value, h1, h2, h3, h4, g1, g2, g3, g4, g5, g6]
def isCode : Jvm.Cond → Bool
  | .code _ _ _ _ => true
  | _ => false
theorem all_split {L : List Jvm.Cond} {P : Jvm.Cond → Bool} (h1 : L.all (fun c => isCode c || P c) = true) (h2 : ∀ c ∈ L.filter isCode, P c = true) : L.all P = true := by
  refine List.all_eq_true.mpr fun c hc => ?_
  have h := List.all_eq_true.mp h1 c hc
  rcases Bool.eq_false_or_eq_true (isCode c) with hi | hi
  · exact h2 c (List.mem_filter.mpr ⟨hc, hi⟩)
  · simpa [hi] using h
set_option maxRecDepth 65536 in
theorem w_c0 : (Jvm.Cond.code x code maxLocals ret).before args0 about1 = true := code_word (m := ⟨1, 2⟩) (meth := k1m2) (c := k1c2) (by decide +kernel) rfl rfl rfl (by decide +kernel)
set_option maxRecDepth 65536 in
theorem w_c1 : (Jvm.Cond.code ({ cls := "com/example/weftline/weftline/runner/BodyLengthPinLaw", name := "cont", desc := "(II)B" } : Jvm.MethodName) method_2_code (2 : Nat) (Option.some Jvm.ClassFile.FieldType.byte)).before args0 about1 = true := code_word (m := ⟨1, 1⟩) (meth := k1m1) (c := k1c1) (by decide +kernel) rfl rfl rfl (by decide +kernel)
set_option maxRecDepth 65536 in
theorem w_c2 : (Jvm.Cond.code ({ cls := "java/lang/String", name := "valueOf", desc := "(C)Ljava/lang/String;" } : Jvm.MethodName) jdk_42_method_139_code (1 : Nat) (Option.some (Jvm.ClassFile.FieldType.object "java/lang/String"))).before args0 about1 = true := code_word (m := ⟨7, 1⟩) (meth := k7m1) (c := k7c1) (by decide +kernel) rfl rfl rfl (by decide +kernel)
set_option maxRecDepth 65536 in
theorem w_c3 : (Jvm.Cond.code ({ cls := "java/lang/StringLatin1", name := "canEncode", desc := "(C)Z" } : Jvm.MethodName) jdk_43_method_3_code (1 : Nat) (Option.some Jvm.ClassFile.FieldType.boolean)).before args0 about1 = true := code_word (m := ⟨8, 1⟩) (meth := k8m1) (c := k8c1) (by decide +kernel) rfl rfl rfl (by decide +kernel)
set_option maxRecDepth 65536 in
theorem w_c4 : (Jvm.Cond.code ({ cls := "java/lang/StringLatin1", name := "toBytes", desc := "(C)[B" } : Jvm.MethodName) jdk_43_method_46_code (1 : Nat) (Option.some (Jvm.ClassFile.FieldType.array Jvm.ClassFile.FieldType.byte))).before args0 about1 = true := code_word (m := ⟨8, 2⟩) (meth := k8m2) (c := k8c2) (by decide +kernel) rfl rfl rfl (by decide +kernel)
set_option maxRecDepth 65536 in
theorem w_c5 : (Jvm.Cond.code ({ cls := "java/lang/String", name := "<init>", desc := "([BB)V" } : Jvm.MethodName) jdk_42_method_151_code (3 : Nat) (Option.none : Option Jvm.ClassFile.FieldType)).before args0 about1 = true := code_word (m := ⟨7, 2⟩) (meth := k7m2) (c := k7c2) (by decide +kernel) rfl rfl rfl (by decide +kernel)
set_option maxRecDepth 65536 in
theorem w_c6 : (Jvm.Cond.code ({ cls := "java/lang/Object", name := "<init>", desc := "()V" } : Jvm.MethodName) object_method_1_code (1 : Nat) (Option.none : Option Jvm.ClassFile.FieldType)).before args0 about1 = true := code_word (m := ⟨0, 0⟩) (meth := k0m0) (c := k0c0) (by decide +kernel) rfl rfl rfl (by decide +kernel)
set_option maxRecDepth 65536 in
theorem w_c7 : (Jvm.Cond.code ({ cls := "com/example/weftline/weftline/runner/CompactWire$Body", name := "<init>", desc := "([BI)V" } : Jvm.MethodName) prog_30_method_1_code (3 : Nat) (Option.none : Option Jvm.ClassFile.FieldType)).before args0 about1 = true := code_word (m := ⟨9, 0⟩) (meth := k9m0) (c := k9c0) (by decide +kernel) rfl rfl rfl (by decide +kernel)
set_option maxRecDepth 65536 in
theorem w_c8 : (Jvm.Cond.code ({ cls := "com/example/weftline/weftline/runner/CompactWire$Body", name := "length", desc := "(JLjava/lang/String;)I" } : Jvm.MethodName) prog_30_method_5_code (4 : Nat) (Option.some Jvm.ClassFile.FieldType.int)).before args0 about1 = true := code_word (m := ⟨9, 3⟩) (meth := k9m3) (c := k9c3) (by decide +kernel) rfl rfl rfl (by decide +kernel)
set_option maxRecDepth 65536 in
theorem w_c9 : (Jvm.Cond.code ({ cls := "com/example/weftline/weftline/runner/CompactWire$Body", name := "more", desc := "()Z" } : Jvm.MethodName) prog_30_method_2_code (1 : Nat) (Option.some Jvm.ClassFile.FieldType.boolean)).before args0 about1 = true := code_word (m := ⟨9, 1⟩) (meth := k9m1) (c := k9c1) (by decide +kernel) rfl rfl rfl (by decide +kernel)
set_option maxRecDepth 65536 in
theorem w_c10 : (Jvm.Cond.code ({ cls := "com/example/weftline/weftline/runner/CompactWire$Body", name := "varint", desc := "()J" } : Jvm.MethodName) prog_30_method_3_code (5 : Nat) (Option.some Jvm.ClassFile.FieldType.long)).before args0 about1 = true := code_word (m := ⟨9, 2⟩) (meth := k9m2) (c := k9c2) (by decide +kernel) rfl rfl rfl (by decide +kernel)
def codes1 : List Jvm.Cond := [Jvm.Cond.code x code maxLocals ret, Jvm.Cond.code ({ cls := "com/example/weftline/weftline/runner/BodyLengthPinLaw", name := "cont", desc := "(II)B" } : Jvm.MethodName) method_2_code (2 : Nat) (Option.some Jvm.ClassFile.FieldType.byte), Jvm.Cond.code ({ cls := "java/lang/String", name := "valueOf", desc := "(C)Ljava/lang/String;" } : Jvm.MethodName) jdk_42_method_139_code (1 : Nat) (Option.some (Jvm.ClassFile.FieldType.object "java/lang/String")), Jvm.Cond.code ({ cls := "java/lang/StringLatin1", name := "canEncode", desc := "(C)Z" } : Jvm.MethodName) jdk_43_method_3_code (1 : Nat) (Option.some Jvm.ClassFile.FieldType.boolean), Jvm.Cond.code ({ cls := "java/lang/StringLatin1", name := "toBytes", desc := "(C)[B" } : Jvm.MethodName) jdk_43_method_46_code (1 : Nat) (Option.some (Jvm.ClassFile.FieldType.array Jvm.ClassFile.FieldType.byte)), Jvm.Cond.code ({ cls := "java/lang/String", name := "<init>", desc := "([BB)V" } : Jvm.MethodName) jdk_42_method_151_code (3 : Nat) (Option.none : Option Jvm.ClassFile.FieldType), Jvm.Cond.code ({ cls := "java/lang/Object", name := "<init>", desc := "()V" } : Jvm.MethodName) object_method_1_code (1 : Nat) (Option.none : Option Jvm.ClassFile.FieldType), Jvm.Cond.code ({ cls := "com/example/weftline/weftline/runner/CompactWire$Body", name := "<init>", desc := "([BI)V" } : Jvm.MethodName) prog_30_method_1_code (3 : Nat) (Option.none : Option Jvm.ClassFile.FieldType), Jvm.Cond.code ({ cls := "com/example/weftline/weftline/runner/CompactWire$Body", name := "length", desc := "(JLjava/lang/String;)I" } : Jvm.MethodName) prog_30_method_5_code (4 : Nat) (Option.some Jvm.ClassFile.FieldType.int), Jvm.Cond.code ({ cls := "com/example/weftline/weftline/runner/CompactWire$Body", name := "more", desc := "()Z" } : Jvm.MethodName) prog_30_method_2_code (1 : Nat) (Option.some Jvm.ClassFile.FieldType.boolean), Jvm.Cond.code ({ cls := "com/example/weftline/weftline/runner/CompactWire$Body", name := "varint", desc := "()J" } : Jvm.MethodName) prog_30_method_3_code (5 : Nat) (Option.some Jvm.ClassFile.FieldType.long)]
set_option maxRecDepth 65536 in
theorem codes_eq : words1.filter isCode = codes1 := rfl
theorem w_codes : ∀ c ∈ words1.filter isCode, c.before args0 about1 = true := by
  rw [codes_eq]
  intro c hc
  simp only [codes1, List.mem_cons, List.not_mem_nil, or_false] at hc
  rcases hc with rfl | rfl | rfl | rfl | rfl | rfl | rfl | rfl | rfl | rfl | rfl
  · exact w_c0
  · exact w_c1
  · exact w_c2
  · exact w_c3
  · exact w_c4
  · exact w_c5
  · exact w_c6
  · exact w_c7
  · exact w_c8
  · exact w_c9
  · exact w_c10
set_option maxRecDepth 65536 in
theorem w_t1 : (words1.take 24).all (fun c => isCode c || c.before args0 about1) = true := by decide +kernel
set_option maxRecDepth 65536 in
theorem w_t2 : ((words1.drop 24).take 24).all (fun c => isCode c || c.before args0 about1) = true := by decide +kernel
set_option maxRecDepth 65536 in
theorem w_t3 : ((words1.drop 24).drop 24).all (fun c => isCode c || c.before args0 about1) = true := by decide +kernel
theorem w_tables : (allAtoms (Jvm.Cond.code x code maxLocals ret :: tables_1)).before args0 about1 = true := by
  rw [allAtoms_all]
  show words1.all (fun c => c.before args0 about1) = true
  refine all_split ?_ w_codes
  rw [← List.take_append_drop 24 words1, List.all_append, w_t1, ← List.take_append_drop 24 (words1.drop 24), List.all_append, w_t2, w_t3]
  rfl
set_option maxRecDepth 65536 in
theorem w_rest : rest_1_c.before args0 about1 = true := by decide +kernel
set_option maxRecDepth 65536 in
theorem w_case : (Jvm.Cond.and given_1 narrow_1).before args0 about1 = true := by decide +kernel
theorem w_applies : (headSpec (Jvm.Cond.code x code maxLocals ret :: tables_1) room_1).applies x e0.platform about1 = true :=
  (Spec.applies_iff w_frames).mpr ⟨w_running, w_runnable, w_alone, w_named, w_hears, w_ripe, w_room, w_tables⟩
theorem atStart : AtStart classFile x code maxLocals ret World_1 tables_1 room_1 Calls_1 rest_1 Pre_1 launch0 p0 e0 about1 theMethod args0 below0 :=
  ⟨lists_1, trivial, launch0.admits_env _ _ _, launch0.least_env, fairChoices_fair.cas, fairChoices_fair.clock, w_frames, w_args, w_heap, w_applies, trivial, w_rest, w_case⟩
end start1
theorem witness_1 : WitnessClaimed_1 := ⟨start1.p0, start1.e0, start1.about1, start1.theMethod, start1.args0, start1.below0, start1.atStart⟩
end Jvm.Pilot.@@N@@
