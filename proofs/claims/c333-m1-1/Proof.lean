import JvmDerived
import JvmDerived.Pilot.@@N@@Statement
import JvmDerived.Pilot.@@N@@Code
set_option linter.unusedVariables false
set_option linter.unusedSimpArgs false
namespace Jvm.Pilot.@@N@@
open Jvm Jvm.ClassFile Sem Op Lib Jvm.Free Jvm.Stand Jvm.LawKit Jvm.RoadKit Bundle Jvm.Pilot.@@N@@.Jvm.D
section OwnKit
variable {p : Program} {l : Launch} {e : Env} {R : Room} {s : State} {m : MethodId} {args : Array Value} {below : List Frame} {meth : Method} {c : Code} {T : State} {locs : List Loc} {cells slots : Nat} {Z : State} {h h' : Heap} {a b : Addr} {kc ks : Nat} {Q : Option Value → Heap → List Loc → Prop}
/-- from U the run comes to the method's end, and Q says what is left there -/
def own_Ends (p : Program) (e : Env) (below : List Frame) (s : State) (kc ks : Nat) (Q : Option Value → Heap → List Loc → Prop) (U : State) : Prop :=
  ∃ s₂ o, Steps p.tables e below U s₂ ∧ s₂.status = .running ∧ Ended s₂ below o ∧ ∃ v L, o = .returned v ∧ Q v s₂.heap L ∧ FrameEnd s o s₂ L kc ks
theorem own_step {U U' : State} (k1 : ∀ t, Steps p.tables e below U' t → Steps p.tables e below U t) (k2 : own_Ends p e below s kc ks Q U') : own_Ends p e below s kc ks Q U := by
  obtain ⟨s₂, o, h1, r⟩ := k2
  exact ⟨s₂, o, k1 _ h1, r⟩
theorem own_cast {g g' : JFrame} (q : g = g') (k : own_Ends p e below s kc ks Q (T.setTop g')) : own_Ends p e below s kc ks Q (T.setTop g) := q ▸ k
theorem own_ret0 (X : Stand p l e R s m args below meth c T locs cells slots) (hx : p.tables.exec = Jvm.exec) (hlk : meth.locks = false) (hret : meth.sig.returnType = none) {pc : Nat} {Ls : Array Slot}
    (hd : decode c.code pc = .ok (.return_, 1)) (hq : Q none T.heap locs) (hk : cells ≤ kc) (hn : slots ≤ ks) : own_Ends p e below s kc ks Q (T.setTop (mkF m pc Ls [])) := by
  obtain ⟨fs, hr, hrun, hended, hW, hsame⟩ := X.leave (v := none) (fun _ => rfl) hlk
  exact ⟨_, _, X.returnOut hx hret hd hr, hrun, hended, _, _, rfl, hq, ⟨_, rfl⟩, hW, hsame.mono hk hn⟩
theorem own_retN (X : Stand p l e R s m args below meth c T locs cells slots) (hx : p.tables.exec = Jvm.exec) (hlk : meth.locks = false) {t : FieldType} (hret : meth.sig.returnType = some t) (ht : t = .boolean ∨ t = .byte ∨ t = .char ∨ t = .short) {pc : Nat} {Ls : Array Slot} {z : Int32} {rest : List Value}
    (hd : decode c.code pc = .ok (.ireturn, 1)) {w : Int32} (hw : nar t z = w) (hq : Q (some (.int w)) T.heap locs) (hk : cells ≤ kc) (hn : slots ≤ ks) : own_Ends p e below s kc ks Q (T.setTop (mkF m pc Ls (.int z :: rest))) := by
  subst hw
  obtain ⟨fs, hr, hrun, hended, hW, hsame⟩ := X.leave (v := some (.int (nar t z))) (fun h => by rw [hret] at h; cases h) hlk
  exact ⟨_, _, retN X hx hret ht hd hr, hrun, hended, _, _, rfl, hq, ⟨_, rfl⟩, hW, hsame.mono hk hn⟩
theorem own_retI (X : Stand p l e R s m args below meth c T locs cells slots) (hx : p.tables.exec = Jvm.exec) (hlk : meth.locks = false) (hret : meth.sig.returnType = some .int) {pc : Nat} {Ls : Array Slot} {z : Int32} {rest : List Value}
    (hd : decode c.code pc = .ok (.ireturn, 1)) (hq : Q (some (.int z)) T.heap locs) (hk : cells ≤ kc) (hn : slots ≤ ks) : own_Ends p e below s kc ks Q (T.setTop (mkF m pc Ls (.int z :: rest))) := by
  obtain ⟨fs, hr, hrun, hended, hW, hsame⟩ := X.leave (v := some (.int z)) (fun h => by rw [hret] at h; cases h) hlk
  exact ⟨_, _, retOut X hx hret rfl (Or.inl ⟨rfl, Or.inl rfl, _, rfl⟩) hd hr, hrun, hended, _, _, rfl, hq, ⟨_, rfl⟩, hW, hsame.mono hk hn⟩
theorem own_retL (X : Stand p l e R s m args below meth c T locs cells slots) (hx : p.tables.exec = Jvm.exec) (hlk : meth.locks = false) (hret : meth.sig.returnType = some .long) {pc : Nat} {Ls : Array Slot} {z : Int64} {rest : List Value}
    (hd : decode c.code pc = .ok (.lreturn, 1)) (hq : Q (some (.long z)) T.heap locs) (hk : cells ≤ kc) (hn : slots ≤ ks) : own_Ends p e below s kc ks Q (T.setTop (mkF m pc Ls (.long z :: rest))) := by
  obtain ⟨fs, hr, hrun, hended, hW, hsame⟩ := X.leave (v := some (.long z)) (fun h => by rw [hret] at h; cases h) hlk
  exact ⟨_, _, retOut X hx hret rfl (Or.inr (Or.inl ⟨rfl, rfl, _, rfl⟩)) hd hr, hrun, hended, _, _, rfl, hq, ⟨_, rfl⟩, hW, hsame.mono hk hn⟩
theorem own_retA (X : Stand p l e R s m args below meth c T locs cells slots) (hx : p.tables.exec = Jvm.exec) (hlk : meth.locks = false) {t : FieldType} (hret : meth.sig.returnType = some t) {pc : Nat} {Ls : Array Slot} {z : Addr} {rest : List Value} (ht : t.isReference = true) (hnw : narrow t (.ref z) = .ref z)
    (hd : decode c.code pc = .ok (.areturn, 1)) (hq : Q (some (.ref z)) T.heap locs) (hk : cells ≤ kc) (hn : slots ≤ ks) : own_Ends p e below s kc ks Q (T.setTop (mkF m pc Ls (.ref z :: rest))) := by
  obtain ⟨fs, hr, hrun, hended, hW, hsame⟩ := X.leave (v := some (.ref z)) (fun h => by rw [hret] at h; cases h) hlk
  exact ⟨_, _, retOut X hx hret hnw (Or.inr (Or.inr (Or.inr (Or.inr ⟨rfl, ht, rfl⟩)))) hd hr, hrun, hended, _, _, rfl, hq, ⟨_, rfl⟩, hW, hsame.mono hk hn⟩
theorem own_lrem {g : JFrame} {target : State} (X : Stand p l e R s m args below meth c T locs cells slots) (hx : p.tables.exec = Jvm.exec) (hg : g.method = m) {x y : Int64} {rest : List Value} (hd : decode c.code g.pc = .ok (.lrem, 1)) (hs : g.stack = .long y :: .long x :: rest) (hy : y ≠ 0)
    (hr : Steps p.tables e below (T.setTop { g with pc := g.pc + 1, stack := .long (x % y) :: rest }) target) : Steps p.tables e below (T.setTop g) target := by
  have q : x - x / y * y = x % y := lrem_mod x y
  exact XS.lrem X.here hx hg hd hs hy (by rw [q]; exact hr)
theorem own_pop2L {g : JFrame} {target : State} (X : Stand p l e R s m args below meth c T locs cells slots) (hx : p.tables.exec = Jvm.exec) (hg : g.method = m) {x : Int64} {rest : List Value} (hd : decode c.code g.pc = .ok (.pop2, 1)) (hs : g.stack = .long x :: rest)
    (hr : Steps p.tables e below (T.setTop { g with pc := g.pc + 1, stack := rest }) target) : Steps p.tables e below (T.setTop g) target := by
  subst hg
  jvm_step X.here [X.here.top, hx, hd, hs, Value.category]
  exact hr
theorem own_swHit {g : JFrame} {target : State} (X : Stand p l e R s m args below meth c T locs cells slots) (hx : p.tables.exec = Jvm.exec) (hg : g.method = m) {k : Int32} {rest : List Value} (hs : g.stack = .int k :: rest) {dflt : Int} {pairs : Array (Int × Int)} {len : Nat} (hd : decode c.code g.pc = .ok (.lookupswitch dflt pairs, len))
    (hsorted : (pairs.toList.zip (pairs.toList.drop 1)).all (fun (a, next) => a.1 < next.1) = true) {a off : Int} (hfind : pairs.find? (·.1 == k.toInt) = some (a, off)) {pc0 pc' : Nat} (hpc : g.pc = pc0) (ho : 0 ≤ (pc0 : Int) + off) (hp : ((pc0 : Int) + off).toNat = pc')
    (hr : Steps p.tables e below (T.setTop { g with pc := pc', stack := rest }) target) : Steps p.tables e below (T.setTop g) target := by
  subst hpc
  subst hp
  exact X.lookupswitchHit hx hg hs hd hsorted hfind ho target hr
theorem own_swMiss {g : JFrame} {target : State} (X : Stand p l e R s m args below meth c T locs cells slots) (hx : p.tables.exec = Jvm.exec) (hg : g.method = m) {k : Int32} {rest : List Value} (hs : g.stack = .int k :: rest) {dflt : Int} {pairs : Array (Int × Int)} {len : Nat} (hd : decode c.code g.pc = .ok (.lookupswitch dflt pairs, len))
    (hsorted : (pairs.toList.zip (pairs.toList.drop 1)).all (fun (a, next) => a.1 < next.1) = true) (hfind : pairs.find? (·.1 == k.toInt) = none) {pc0 pc' : Nat} (hpc : g.pc = pc0) (ho : 0 ≤ (pc0 : Int) + dflt) (hp : ((pc0 : Int) + dflt).toNat = pc')
    (hr : Steps p.tables e below (T.setTop { g with pc := pc', stack := rest }) target) : Steps p.tables e below (T.setTop g) target := by
  subst hpc
  subst hp
  exact X.lookupswitchMiss hx hg hs hd hsorted hfind ho target hr
/-! arrays, by what each place holds -/
def own_up {α : Type} (f : Nat → α) (i : Nat) (x : α) : Nat → α := fun k => if k = i then x else f k
def own_AI (Z : State) (h : Heap) (a : Addr) (ty : FieldType) (n : Nat) (f : Nat → Int32) : Prop := ∃ c : Cell, Arr Z h a c ty ∧ c.slots.size = n ∧ ∀ k, k < n → c.slots[k]? = some (.int (f k))
def own_AJ (Z : State) (h : Heap) (a : Addr) (n : Nat) (f : Nat → Int64) : Prop := ∃ c : Cell, Arr Z h a c .long ∧ c.slots.size = n ∧ ∀ k, k < n → c.slots[k]? = some (.long (f k))
theorem own_AI.lt {ty : FieldType} {n : Nat} {f : Nat → Int32} (A : own_AI Z h a ty n f) : a < h.size := by obtain ⟨c, A, -⟩ := A; exact A.lt
theorem own_AI.ext {ty : FieldType} {n : Nat} {f : Nat → Int32} (A : own_AI Z h a ty n f) (E : Ext h h') : own_AI Z h' a ty n f := by obtain ⟨c, A, r⟩ := A; exact ⟨c, A.ext E, r⟩
theorem own_AI.other {ty : FieldType} {n : Nat} {f : Nat → Int32} {sl : Nat} {v : Value} (A : own_AI Z h b ty n f) (W : Wr h h' a sl v) (q : b ≠ a) : own_AI Z h' b ty n f := by obtain ⟨c, A, r⟩ := A; exact ⟨c, A.other W q, r⟩
theorem own_AI.keep {ty : FieldType} {n : Nat} {f : Nat → Int32} {ws : List Addr} (A : own_AI Z h a ty n f) (K : Keep h h' ws) (q : a ∉ ws) : own_AI Z h' a ty n f := by obtain ⟨c, A, r⟩ := A; exact ⟨c, ⟨K.2.1 a c A.1 q, A.2⟩, r⟩
theorem own_AJ.lt {n : Nat} {f : Nat → Int64} (A : own_AJ Z h a n f) : a < h.size := by obtain ⟨c, A, -⟩ := A; exact A.lt
theorem own_AJ.ext {n : Nat} {f : Nat → Int64} (A : own_AJ Z h a n f) (E : Ext h h') : own_AJ Z h' a n f := by obtain ⟨c, A, r⟩ := A; exact ⟨c, A.ext E, r⟩
theorem own_idx {j : Int32} {i n : Nat} {cl : Cell} (hi : j.toInt = (i : Int)) (hn : i < n) (hs : cl.slots.size = n) : ¬ (j < 0 ∨ cl.slots.size ≤ j.toNatClampNeg) ∧ j.toNatClampNeg = i := by
  have e : j.toNatClampNeg = i := by
    show j.toInt.toNat = i
    omega
  refine ⟨?_, e⟩
  rw [e, hs]
  intro q
  rcases q with q | q
  · rw [Int32.lt_iff_toInt_lt, hi] at q
    have z : (0 : Int32).toInt = 0 := by decide
    omega
  · omega
theorem own_set {n : Nat} {cl : Cell} {i : Nat} {v : Value} {g : Nat → Value} (hs : cl.slots.size = n) (hn : i < n) (hf : ∀ k, k < n → cl.slots[k]? = some (g k)) : (cl.setSlot i v).slots.size = n ∧ ∀ k, k < n → (cl.setSlot i v).slots[k]? = some (if k = i then v else g k) := by
  refine ⟨by rw [sz_set]; exact hs, fun k hk => ?_⟩
  by_cases q : k = i
  · subst q; simp [Cell.setSlot, hs, hn]
  · have : (cl.setSlot i v).slots[k]? = cl.slots[k]? := Array.getElem?_setIfInBounds_ne (fun z => q z.symm)
    rw [this, hf k hk, if_neg q]
theorem own_stI (X : Stand p l e R s m args below meth c T locs cells slots) (hx : p.tables.exec = Jvm.exec) (hZ : Z.Warmed39 s.vm) (eT : T.heap = h) {n : Nat} {f : Nat → Int32} (A : own_AI Z h a .int n f) {j x : Int32} (i : Nat) (hi : j.toInt = (i : Int)) (hn : i < n) {g : JFrame} (hg : g.method = m) {rest : List Value} (hs : g.stack = .int x :: .int j :: .ref a :: rest) (hd : decode c.code g.pc = .ok (.iastore, 1)) :
    ∃ T' h', Stand p l e R s m args below meth c T' (locs ++ [⟨a, i⟩]) cells slots ∧ T'.heap = h' ∧ Wr h h' a i (.int x) ∧ own_AI Z h' a .int n (own_up f i x) ∧ ∀ target, Steps p.tables e below (T'.setTop { g with pc := g.pc + 1, stack := rest }) target → Steps p.tables e below (T.setTop g) target := by
  obtain ⟨cl, A1, A2, A3⟩ := A
  obtain ⟨q1, q2⟩ := own_idx hi hn A2
  obtain ⟨T', h', X', e', W, st⟩ := stI X hx hZ eT A1 q1 hg hs hd
  rw [q2] at X' W
  obtain ⟨r1, r2⟩ := own_set (v := .int x) A2 hn A3
  refine ⟨T', h', X', e', W, ⟨cl.setSlot i (.int x), A1.same W, r1, fun k hk => ?_⟩, st⟩
  rw [r2 k hk]
  by_cases q : k = i
  · simp [own_up, q]
  · simp [own_up, q]
theorem own_stB (X : Stand p l e R s m args below meth c T locs cells slots) (hx : p.tables.exec = Jvm.exec) (hZ : Z.Warmed39 s.vm) (eT : T.heap = h) {n : Nat} {f : Nat → Int32} (A : own_AI Z h a .byte n f) {j x : Int32} (i : Nat) (hi : j.toInt = (i : Int)) (hn : i < n) {g : JFrame} (hg : g.method = m) {rest : List Value} (hs : g.stack = .int x :: .int j :: .ref a :: rest) (hd : decode c.code g.pc = .ok (.bastore, 1)) :
    ∃ T' h', Stand p l e R s m args below meth c T' (locs ++ [⟨a, i⟩]) cells slots ∧ T'.heap = h' ∧ Wr h h' a i (.int (x.toInt8.toInt32)) ∧ own_AI Z h' a .byte n (own_up f i (x.toInt8.toInt32)) ∧ ∀ target, Steps p.tables e below (T'.setTop { g with pc := g.pc + 1, stack := rest }) target → Steps p.tables e below (T.setTop g) target := by
  obtain ⟨cl, A1, A2, A3⟩ := A
  obtain ⟨q1, q2⟩ := own_idx hi hn A2
  obtain ⟨T', h', X', e', W, st⟩ := stB X hx hZ eT A1 q1 hg hs hd
  rw [q2] at X' W
  obtain ⟨r1, r2⟩ := own_set (v := .int (x.toInt8.toInt32)) A2 hn A3
  refine ⟨T', h', X', e', W, ⟨cl.setSlot i (.int (x.toInt8.toInt32)), A1.same W, r1, fun k hk => ?_⟩, st⟩
  rw [r2 k hk]
  by_cases q : k = i
  · simp [own_up, q]
  · simp [own_up, q]
theorem own_stJ (X : Stand p l e R s m args below meth c T locs cells slots) (hx : p.tables.exec = Jvm.exec) (hZ : Z.Warmed39 s.vm) (eT : T.heap = h) {n : Nat} {f : Nat → Int64} (A : own_AJ Z h a n f) {j : Int32} {x : Int64} (i : Nat) (hi : j.toInt = (i : Int)) (hn : i < n) {g : JFrame} (hg : g.method = m) {rest : List Value} (hs : g.stack = .long x :: .int j :: .ref a :: rest) (hd : decode c.code g.pc = .ok (.lastore, 1)) :
    ∃ T' h', Stand p l e R s m args below meth c T' (locs ++ [⟨a, i⟩]) cells slots ∧ T'.heap = h' ∧ Wr h h' a i (.long x) ∧ own_AJ Z h' a n (own_up f i x) ∧ ∀ target, Steps p.tables e below (T'.setTop { g with pc := g.pc + 1, stack := rest }) target → Steps p.tables e below (T.setTop g) target := by
  obtain ⟨cl, A1, A2, A3⟩ := A
  obtain ⟨q1, q2⟩ := own_idx hi hn A2
  obtain ⟨T', h', X', e', W, st⟩ := stJ X hx hZ eT A1 q1 hg hs hd
  rw [q2] at X' W
  obtain ⟨r1, r2⟩ := own_set (v := .long x) A2 hn A3
  refine ⟨T', h', X', e', W, ⟨cl.setSlot i (.long x), A1.same W, r1, fun k hk => ?_⟩, st⟩
  rw [r2 k hk]
  by_cases q : k = i
  · simp [own_up, q]
  · simp [own_up, q]
theorem own_ldI (X : Stand p l e R s m args below meth c T locs cells slots) (hx : p.tables.exec = Jvm.exec) (hZ : Z.Warmed39 s.vm) (eT : T.heap = h) {n : Nat} {f : Nat → Int32} (A : own_AI Z h a .int n f) {j : Int32} (i : Nat) (hi : j.toInt = (i : Int)) (hn : i < n) {g : JFrame} (hg : g.method = m) {rest : List Value} (hs : g.stack = .int j :: .ref a :: rest) (hd : decode c.code g.pc = .ok (.iaload, 1)) :
    ∀ target, Steps p.tables e below (T.setTop { g with pc := g.pc + 1, stack := .int (f i) :: rest }) target → Steps p.tables e below (T.setTop g) target := by
  obtain ⟨cl, A1, A2, A3⟩ := A
  obtain ⟨q1, q2⟩ := own_idx hi hn A2
  exact X.iaload hx (j := j) (v := .int (f i)) (by rw [eT]; exact A1.1) (State.isArrayOf_alike hZ.alike A1.2.1) A1.2.2 q1 (by rw [q2]; exact A3 i hn) hg hs hd
theorem own_ldB (X : Stand p l e R s m args below meth c T locs cells slots) (hx : p.tables.exec = Jvm.exec) (hZ : Z.Warmed39 s.vm) (eT : T.heap = h) {n : Nat} {f : Nat → Int32} (A : own_AI Z h a .byte n f) {j : Int32} (i : Nat) (hi : j.toInt = (i : Int)) (hn : i < n) {g : JFrame} (hg : g.method = m) {rest : List Value} (hs : g.stack = .int j :: .ref a :: rest) (hd : decode c.code g.pc = .ok (.baload, 1)) :
    ∀ target, Steps p.tables e below (T.setTop { g with pc := g.pc + 1, stack := .int (f i) :: rest }) target → Steps p.tables e below (T.setTop g) target := by
  obtain ⟨cl, A1, A2, A3⟩ := A
  obtain ⟨q1, q2⟩ := own_idx hi hn A2
  exact X.baloadBytes hx (j := j) (v := .int (f i)) (by rw [eT]; exact A1.1) (State.isArrayOf_alike hZ.alike A1.2.1) A1.2.2 q1 (by rw [q2]; exact A3 i hn) hg hs hd
theorem own_ldJ (X : Stand p l e R s m args below meth c T locs cells slots) (hx : p.tables.exec = Jvm.exec) (hZ : Z.Warmed39 s.vm) (eT : T.heap = h) {n : Nat} {f : Nat → Int64} (A : own_AJ Z h a n f) {j : Int32} (i : Nat) (hi : j.toInt = (i : Int)) (hn : i < n) {g : JFrame} (hg : g.method = m) {rest : List Value} (hs : g.stack = .int j :: .ref a :: rest) (hd : decode c.code g.pc = .ok (.laload, 1)) :
    ∀ target, Steps p.tables e below (T.setTop { g with pc := g.pc + 1, stack := .long (f i) :: rest }) target → Steps p.tables e below (T.setTop g) target := by
  obtain ⟨cl, A1, A2, A3⟩ := A
  obtain ⟨q1, q2⟩ := own_idx hi hn A2
  exact X.laload hx (j := j) (v := .long (f i)) (by rw [eT]; exact A1.1) (State.isArrayOf_alike hZ.alike A1.2.1) A1.2.2 q1 (by rw [q2]; exact A3 i hn) hg hs hd
theorem own_lenI (X : Stand p l e R s m args below meth c T locs cells slots) (hx : p.tables.exec = Jvm.exec) (hZ : Z.Warmed39 s.vm) (eT : T.heap = h) {ty : FieldType} {n : Nat} {f : Nat → Int32} (A : own_AI Z h a ty n f) {z : Int32} (hz : n.toInt32 = z) {g : JFrame} (hg : g.method = m) {rest : List Value} (hs : g.stack = .ref a :: rest) (hd : decode c.code g.pc = .ok (.arraylength, 1)) :
    ∀ target, Steps p.tables e below (T.setTop { g with pc := g.pc + 1, stack := .int z :: rest }) target → Steps p.tables e below (T.setTop g) target := by
  obtain ⟨cl, A1, A2, A3⟩ := A
  intro t k
  refine X.arraylength hx (by rw [eT]; exact A1.1) (State.isArrayOf_alike hZ.alike A1.2.1) hg hs hd t ?_
  rw [A2, hz]; exact k
theorem own_newI (X : Stand p l e R s m args below meth c T locs cells slots) (hx : p.tables.exec = Jvm.exec) (hZ : Z.Warmed39 s.vm) {a0 : Array Value} {aty : ArrayType} (w : (Cond.arrayClass (newarray.typeOf aty)).before a0 Z = true) (eT : T.heap = h) {g : JFrame} (hg : g.method = m) (hd : decode c.code g.pc = .ok (.newarray aty, 2)) {n : Int32} {rest : List Value} (hs : g.stack = .int n :: rest)
    {N : Nat} (hn : n.toInt = (N : Int)) (hb : N * 8 ≤ 536870912) (hc : cells + 1 ≤ R.cells) (hl : slots + N ≤ R.slots) (hdv : defaultValue (newarray.typeOf aty) = .int 0) :
    ∃ T' h', Stand p l e R s m args below meth c T' locs (cells + 1) (slots + N) ∧ T'.heap = h' ∧ Ext h h' ∧ own_AI Z h' h.size (newarray.typeOf aty) N (fun _ => 0) ∧
      ∀ target, Steps p.tables e below (T'.setTop { g with pc := g.pc + 2, stack := .ref h.size :: rest }) target → Steps p.tables e below (T.setTop g) target := by
  have e1 : n.toNatClampNeg = N := by
    show n.toInt.toNat = N
    omega
  have e2 : ¬ n < 0 := by
    rw [Int32.lt_iff_toInt_lt, hn]
    have z : (0 : Int32).toInt = 0 := by decide
    omega
  obtain ⟨T', h', cA, X', e', E, A, st⟩ := newP X hx hZ w eT hg hd hs e2 (cap := N) (by omega) hb hc hl
  refine ⟨T', h', X', e', E, ⟨_, A, by rw [sz_new, e1], fun k hk => ?_⟩, st⟩
  simp [newA, e1, hk, hdv]
theorem own_newJ (X : Stand p l e R s m args below meth c T locs cells slots) (hx : p.tables.exec = Jvm.exec) (hZ : Z.Warmed39 s.vm) {a0 : Array Value} (w : (Cond.arrayClass (newarray.typeOf .long)).before a0 Z = true) (eT : T.heap = h) {g : JFrame} (hg : g.method = m) (hd : decode c.code g.pc = .ok (.newarray .long, 2)) {n : Int32} {rest : List Value} (hs : g.stack = .int n :: rest)
    {N : Nat} (hn : n.toInt = (N : Int)) (hb : N * 8 ≤ 536870912) (hc : cells + 1 ≤ R.cells) (hl : slots + N ≤ R.slots) :
    ∃ T' h', Stand p l e R s m args below meth c T' locs (cells + 1) (slots + N) ∧ T'.heap = h' ∧ Ext h h' ∧ own_AJ Z h' h.size N (fun _ => 0) ∧
      ∀ target, Steps p.tables e below (T'.setTop { g with pc := g.pc + 2, stack := .ref h.size :: rest }) target → Steps p.tables e below (T.setTop g) target := by
  have e1 : n.toNatClampNeg = N := by
    show n.toInt.toNat = N
    omega
  have e2 : ¬ n < 0 := by
    rw [Int32.lt_iff_toInt_lt, hn]
    have z : (0 : Int32).toInt = 0 := by decide
    omega
  obtain ⟨T', h', cA, X', e', E, A, st⟩ := newP X hx hZ w eT hg hd hs e2 (cap := N) (by omega) hb hc hl
  refine ⟨T', h', X', e', E, ⟨_, A, by rw [sz_new, e1], fun k hk => ?_⟩, st⟩
  simp [newA, e1, hk, defaultValue, newarray.typeOf]
end OwnKit
theorem d1_0 : decode prog_88_method_2_code 0 = .ok (.iload_n 0, 1) := by decide +kernel
theorem d1_1 : decode prog_88_method_2_code 1 = .ok (.bipush 97, 2) := by decide +kernel
theorem d1_3 : decode prog_88_method_2_code 3 = .ok (.if_icmp .lt 9, 3) := by decide +kernel
theorem d1_6 : decode prog_88_method_2_code 6 = .ok (.iload_n 0, 1) := by decide +kernel
theorem d1_7 : decode prog_88_method_2_code 7 = .ok (.bipush 122, 2) := by decide +kernel
theorem d1_9 : decode prog_88_method_2_code 9 = .ok (.if_icmp .le 182, 3) := by decide +kernel
theorem d1_12 : decode prog_88_method_2_code 12 = .ok (.iload_n 0, 1) := by decide +kernel
theorem d1_13 : decode prog_88_method_2_code 13 = .ok (.bipush 65, 2) := by decide +kernel
theorem d1_15 : decode prog_88_method_2_code 15 = .ok (.if_icmp .lt 9, 3) := by decide +kernel
theorem d1_18 : decode prog_88_method_2_code 18 = .ok (.iload_n 0, 1) := by decide +kernel
theorem d1_19 : decode prog_88_method_2_code 19 = .ok (.bipush 90, 2) := by decide +kernel
theorem d1_21 : decode prog_88_method_2_code 21 = .ok (.if_icmp .le 170, 3) := by decide +kernel
theorem d1_24 : decode prog_88_method_2_code 24 = .ok (.iload_n 0, 1) := by decide +kernel
theorem d1_25 : decode prog_88_method_2_code 25 = .ok (.bipush 95, 2) := by decide +kernel
theorem d1_27 : decode prog_88_method_2_code 27 = .ok (.if_icmp .eq 164, 3) := by decide +kernel
theorem d1_30 : decode prog_88_method_2_code 30 = .ok (.iload_n 0, 1) := by decide +kernel
theorem d1_31 : decode prog_88_method_2_code 31 = .ok (.sipush 192, 3) := by decide +kernel
theorem d1_34 : decode prog_88_method_2_code 34 = .ok (.if_icmp .lt 10, 3) := by decide +kernel
theorem d1_37 : decode prog_88_method_2_code 37 = .ok (.iload_n 0, 1) := by decide +kernel
theorem d1_38 : decode prog_88_method_2_code 38 = .ok (.sipush 214, 3) := by decide +kernel
theorem d1_41 : decode prog_88_method_2_code 41 = .ok (.if_icmp .le 150, 3) := by decide +kernel
theorem d1_44 : decode prog_88_method_2_code 44 = .ok (.iload_n 0, 1) := by decide +kernel
theorem d1_45 : decode prog_88_method_2_code 45 = .ok (.sipush 216, 3) := by decide +kernel
theorem d1_48 : decode prog_88_method_2_code 48 = .ok (.if_icmp .lt 10, 3) := by decide +kernel
theorem d1_51 : decode prog_88_method_2_code 51 = .ok (.iload_n 0, 1) := by decide +kernel
theorem d1_52 : decode prog_88_method_2_code 52 = .ok (.sipush 246, 3) := by decide +kernel
theorem d1_55 : decode prog_88_method_2_code 55 = .ok (.if_icmp .le 136, 3) := by decide +kernel
theorem d1_58 : decode prog_88_method_2_code 58 = .ok (.iload_n 0, 1) := by decide +kernel
theorem d1_59 : decode prog_88_method_2_code 59 = .ok (.sipush 248, 3) := by decide +kernel
theorem d1_62 : decode prog_88_method_2_code 62 = .ok (.if_icmp .lt 10, 3) := by decide +kernel
theorem d1_65 : decode prog_88_method_2_code 65 = .ok (.iload_n 0, 1) := by decide +kernel
theorem d1_66 : decode prog_88_method_2_code 66 = .ok (.sipush 767, 3) := by decide +kernel
theorem d1_69 : decode prog_88_method_2_code 69 = .ok (.if_icmp .le 122, 3) := by decide +kernel
theorem d1_72 : decode prog_88_method_2_code 72 = .ok (.iload_n 0, 1) := by decide +kernel
theorem d1_73 : decode prog_88_method_2_code 73 = .ok (.sipush 880, 3) := by decide +kernel
theorem d1_76 : decode prog_88_method_2_code 76 = .ok (.if_icmp .lt 10, 3) := by decide +kernel
theorem d1_79 : decode prog_88_method_2_code 79 = .ok (.iload_n 0, 1) := by decide +kernel
theorem d1_80 : decode prog_88_method_2_code 80 = .ok (.sipush 893, 3) := by decide +kernel
theorem d1_83 : decode prog_88_method_2_code 83 = .ok (.if_icmp .le 108, 3) := by decide +kernel
theorem d1_86 : decode prog_88_method_2_code 86 = .ok (.iload_n 0, 1) := by decide +kernel
theorem d1_87 : decode prog_88_method_2_code 87 = .ok (.sipush 895, 3) := by decide +kernel
theorem d1_90 : decode prog_88_method_2_code 90 = .ok (.if_icmp .lt 10, 3) := by decide +kernel
theorem d1_93 : decode prog_88_method_2_code 93 = .ok (.iload_n 0, 1) := by decide +kernel
theorem d1_94 : decode prog_88_method_2_code 94 = .ok (.sipush 8191, 3) := by decide +kernel
theorem d1_97 : decode prog_88_method_2_code 97 = .ok (.if_icmp .le 94, 3) := by decide +kernel
theorem d1_100 : decode prog_88_method_2_code 100 = .ok (.iload_n 0, 1) := by decide +kernel
theorem d1_101 : decode prog_88_method_2_code 101 = .ok (.sipush 8204, 3) := by decide +kernel
theorem d1_104 : decode prog_88_method_2_code 104 = .ok (.if_icmp .lt 10, 3) := by decide +kernel
theorem d1_107 : decode prog_88_method_2_code 107 = .ok (.iload_n 0, 1) := by decide +kernel
theorem d1_108 : decode prog_88_method_2_code 108 = .ok (.sipush 8205, 3) := by decide +kernel
theorem d1_111 : decode prog_88_method_2_code 111 = .ok (.if_icmp .le 80, 3) := by decide +kernel
theorem d1_114 : decode prog_88_method_2_code 114 = .ok (.iload_n 0, 1) := by decide +kernel
theorem d1_115 : decode prog_88_method_2_code 115 = .ok (.sipush 8304, 3) := by decide +kernel
theorem d1_118 : decode prog_88_method_2_code 118 = .ok (.if_icmp .lt 10, 3) := by decide +kernel
theorem d1_121 : decode prog_88_method_2_code 121 = .ok (.iload_n 0, 1) := by decide +kernel
theorem d1_122 : decode prog_88_method_2_code 122 = .ok (.sipush 8591, 3) := by decide +kernel
theorem d1_125 : decode prog_88_method_2_code 125 = .ok (.if_icmp .le 66, 3) := by decide +kernel
theorem d1_128 : decode prog_88_method_2_code 128 = .ok (.iload_n 0, 1) := by decide +kernel
theorem d1_129 : decode prog_88_method_2_code 129 = .ok (.sipush 11264, 3) := by decide +kernel
theorem d1_132 : decode prog_88_method_2_code 132 = .ok (.if_icmp .lt 10, 3) := by decide +kernel
theorem d1_135 : decode prog_88_method_2_code 135 = .ok (.iload_n 0, 1) := by decide +kernel
theorem d1_136 : decode prog_88_method_2_code 136 = .ok (.sipush 12271, 3) := by decide +kernel
theorem d1_139 : decode prog_88_method_2_code 139 = .ok (.if_icmp .le 52, 3) := by decide +kernel
theorem d1_142 : decode prog_88_method_2_code 142 = .ok (.iload_n 0, 1) := by decide +kernel
theorem d1_143 : decode prog_88_method_2_code 143 = .ok (.sipush 12289, 3) := by decide +kernel
theorem d1_146 : decode prog_88_method_2_code 146 = .ok (.if_icmp .lt 9, 3) := by decide +kernel
theorem d1_149 : decode prog_88_method_2_code 149 = .ok (.iload_n 0, 1) := by decide +kernel
theorem d1_150 : decode prog_88_method_2_code 150 = .ok (.ldc 7, 2) := by decide +kernel
theorem d1_152 : decode prog_88_method_2_code 152 = .ok (.if_icmp .le 39, 3) := by decide +kernel
theorem d1_155 : decode prog_88_method_2_code 155 = .ok (.iload_n 0, 1) := by decide +kernel
theorem d1_156 : decode prog_88_method_2_code 156 = .ok (.ldc 8, 2) := by decide +kernel
theorem d1_158 : decode prog_88_method_2_code 158 = .ok (.if_icmp .lt 9, 3) := by decide +kernel
theorem d1_161 : decode prog_88_method_2_code 161 = .ok (.iload_n 0, 1) := by decide +kernel
theorem d1_162 : decode prog_88_method_2_code 162 = .ok (.ldc 9, 2) := by decide +kernel
theorem d1_164 : decode prog_88_method_2_code 164 = .ok (.if_icmp .le 27, 3) := by decide +kernel
theorem d1_167 : decode prog_88_method_2_code 167 = .ok (.iload_n 0, 1) := by decide +kernel
theorem d1_168 : decode prog_88_method_2_code 168 = .ok (.ldc 10, 2) := by decide +kernel
theorem d1_170 : decode prog_88_method_2_code 170 = .ok (.if_icmp .lt 9, 3) := by decide +kernel
theorem d1_173 : decode prog_88_method_2_code 173 = .ok (.iload_n 0, 1) := by decide +kernel
theorem d1_174 : decode prog_88_method_2_code 174 = .ok (.ldc 11, 2) := by decide +kernel
theorem d1_176 : decode prog_88_method_2_code 176 = .ok (.if_icmp .le 15, 3) := by decide +kernel
theorem d1_179 : decode prog_88_method_2_code 179 = .ok (.iload_n 0, 1) := by decide +kernel
theorem d1_180 : decode prog_88_method_2_code 180 = .ok (.ldc 12, 2) := by decide +kernel
theorem d1_182 : decode prog_88_method_2_code 182 = .ok (.if_icmp .lt 13, 3) := by decide +kernel
theorem d1_185 : decode prog_88_method_2_code 185 = .ok (.iload_n 0, 1) := by decide +kernel
theorem d1_186 : decode prog_88_method_2_code 186 = .ok (.ldc 13, 2) := by decide +kernel
theorem d1_188 : decode prog_88_method_2_code 188 = .ok (.if_icmp .gt 7, 3) := by decide +kernel
theorem d1_191 : decode prog_88_method_2_code 191 = .ok (.iconst 1, 1) := by decide +kernel
theorem d1_192 : decode prog_88_method_2_code 192 = .ok (.goto 4, 3) := by decide +kernel
theorem d1_195 : decode prog_88_method_2_code 195 = .ok (.iconst 0, 1) := by decide +kernel
theorem d1_196 : decode prog_88_method_2_code 196 = .ok (.ireturn, 1) := by decide +kernel
theorem pn_1 : plainName "com/example/shuttlecourse/shuttlecourse/model/XmlChars" = true := by first | (simp [plainName, overriddenIn]; done) | decide +kernel
theorem ef_1 (m : MethodId) (p0 : Int32) : entryFrame m #[(.int p0)] 1 = mkF m 0 #[.val (.int p0)] [] := by first | (simp [entryFrame, mkF, argsToLocals, Value.category]; done) | rfl
def f1_196 (p0 : Int32) : Int32 := (1 : Int32)
def f1_191 (p0 : Int32) : Int32 := f1_196 p0
def f1_196b (p0 : Int32) : Int32 := (0 : Int32)
def f1_195 (p0 : Int32) : Int32 := f1_196b p0
def f1_179 (p0 : Int32) : Int32 := (if p0 < (65536 : Int32) then f1_195 p0 else (if (983039 : Int32) < p0 then f1_195 p0 else f1_191 p0))
def f1_167 (p0 : Int32) : Int32 := (if p0 < (65008 : Int32) then f1_179 p0 else (if (65533 : Int32) < p0 then f1_179 p0 else f1_191 p0))
def f1_155 (p0 : Int32) : Int32 := (if p0 < (63744 : Int32) then f1_167 p0 else (if (64975 : Int32) < p0 then f1_167 p0 else f1_191 p0))
def f1_142 (p0 : Int32) : Int32 := (if p0 < (12289 : Int32) then f1_155 p0 else (if (55295 : Int32) < p0 then f1_155 p0 else f1_191 p0))
def f1_128 (p0 : Int32) : Int32 := (if p0 < (11264 : Int32) then f1_142 p0 else (if (12271 : Int32) < p0 then f1_142 p0 else f1_191 p0))
def f1_114 (p0 : Int32) : Int32 := (if p0 < (8304 : Int32) then f1_128 p0 else (if (8591 : Int32) < p0 then f1_128 p0 else f1_191 p0))
def f1_100 (p0 : Int32) : Int32 := (if p0 < (8204 : Int32) then f1_114 p0 else (if (8205 : Int32) < p0 then f1_114 p0 else f1_191 p0))
def f1_86 (p0 : Int32) : Int32 := (if p0 < (895 : Int32) then f1_100 p0 else (if (8191 : Int32) < p0 then f1_100 p0 else f1_191 p0))
def f1_72 (p0 : Int32) : Int32 := (if p0 < (880 : Int32) then f1_86 p0 else (if (893 : Int32) < p0 then f1_86 p0 else f1_191 p0))
def f1_58 (p0 : Int32) : Int32 := (if p0 < (248 : Int32) then f1_72 p0 else (if (767 : Int32) < p0 then f1_72 p0 else f1_191 p0))
def f1_44 (p0 : Int32) : Int32 := (if p0 < (216 : Int32) then f1_58 p0 else (if (246 : Int32) < p0 then f1_58 p0 else f1_191 p0))
def f1_24 (p0 : Int32) : Int32 := (if p0 = (95 : Int32) then f1_191 p0 else (if p0 < (192 : Int32) then f1_44 p0 else (if (214 : Int32) < p0 then f1_44 p0 else f1_191 p0)))
def f1_12 (p0 : Int32) : Int32 := (if p0 < (65 : Int32) then f1_24 p0 else (if (90 : Int32) < p0 then f1_24 p0 else f1_191 p0))
def f1_0 (p0 : Int32) : Int32 := (if p0 < (97 : Int32) then f1_12 p0 else (if (122 : Int32) < p0 then f1_12 p0 else f1_191 p0))
def Q1 (Z : State) (p0 : Int32) (h0 : Heap) (n0 : Nat) (v : Option Value) (h : Heap) (L : List Loc) : Prop := v = some (.int (f1_0 p0)) ∧ Fr n0 L ∧ h = h0
set_option maxRecDepth 65536 in
set_option maxHeartbeats 40000000 in
theorem rm1 (l : Launch) (Z : State) (a0 : Array Value) (hw : ∀ d ∈ tables_1, d.before a0 Z = true) (ws : List Jvm.Cond) (p0 : Int32) (h0 : Heap) (n0 : Nat) :
    MetFree l (⟨"com/example/shuttlecourse/shuttlecourse/model/XmlChars", "isNameStart", "(I)Z"⟩ : MethodName) (head1 (Jvm.Cond.code (⟨"com/example/shuttlecourse/shuttlecourse/model/XmlChars", "isNameStart", "(I)Z"⟩ : MethodName) prog_88_method_2_code 1 (some .boolean) :: ws) ({ frames := 0, cells := 0, slots := 0, locals := 0 } : Room)) (fun a U => a = #[(.int p0)] ∧ Z.Warmed39 U.vm ∧ U.heap = h0) (fun _ _ _ _ _ => True) (fun _ U o U' => ∃ v L, o = .returned v ∧ (Q1 Z p0 h0 n0) v U'.heap L ∧ FrameEnd U o U' L ({ frames := 0, cells := 0, slots := 0, locals := 0 } : Room).cells ({ frames := 0, cells := 0, slots := 0, locals := 0 } : Room).slots) := by
  refine MetFree.of_bodySF (plainFor_of_name pn_1) hisR ?_
  intro p e s m args below meth c s₁ Bd hml0 hP hK
  obtain ⟨rfl, hZ, hh⟩ := hP
  have hx := Bd.exec
  have hby := Bd.bytes
  have hret := Bd.returns
  have hlk := BodyLoose.notSynchronized Bd
  have hml : c.maxLocals = 1 := hml0
  have hown : s.vm.findClass "com/example/shuttlecourse/shuttlecourse/model/XmlChars" = some m.cls := findClass_of_methodNamed Bd.named
  have hnm := (name_of_methodNamed Bd.named Bd.method).1
  have X0 : Stand p l e ({ frames := 0, cells := 0, slots := 0, locals := 0 } : Room) s m #[(.int p0)] below meth c s₁ [] 0 0 := Stand.of_body Bd
  have e0 : s₁.heap = h0 := by rw [← hh, Bd.state]; rfl
  have N0 := Fr.nil n0
  show own_Ends p e below s ({ frames := 0, cells := 0, slots := 0, locals := 0 } : Room).cells ({ frames := 0, cells := 0, slots := 0, locals := 0 } : Room).slots (Q1 Z p0 h0 n0) (s₁.setTop (entryFrame m #[(.int p0)] 1))
  refine own_cast (ef_1 m p0) ?_
  have B1_196 (hF : f1_0 p0 = f1_196 p0) : own_Ends p e below s ({ frames := 0, cells := 0, slots := 0, locals := 0 } : Room).cells ({ frames := 0, cells := 0, slots := 0, locals := 0 } : Room).slots (Q1 Z p0 h0 n0) (s₁.setTop (mkF m 196 #[.val (.int p0)] [(.int (1 : Int32))])) := by
    show own_Ends p e below s _ _ _ (s₁.setTop (mkF m 196 #[.val (.int p0)] [(.int (1 : Int32))]))
    exact own_retN X0 hx hlk (t := .boolean) hret (by simp) (hb hby d1_196) (w := (1 : Int32)) (by decide) ⟨congrArg (fun w => some (Value.int w)) (Eq.symm hF), N0, e0⟩ (by decide) (by decide)
  have B1_191 (hF : f1_0 p0 = f1_191 p0) : own_Ends p e below s ({ frames := 0, cells := 0, slots := 0, locals := 0 } : Room).cells ({ frames := 0, cells := 0, slots := 0, locals := 0 } : Room).slots (Q1 Z p0 h0 n0) (s₁.setTop (mkF m 191 #[.val (.int p0)] [])) := by
    show own_Ends p e below s _ _ _ (s₁.setTop (mkF m 191 #[.val (.int p0)] []))
    refine own_step (fun t k => XS.iconst X0.here hx rfl (hb hby d1_191) k) ?_
    show own_Ends p e below s _ _ _ (s₁.setTop (mkF m 192 #[.val (.int p0)] [(.int (1 : Int32))]))
    refine own_step (fun t k => XS.goto X0.here hx rfl (pc0 := 192) (pc' := 196) rfl (hb hby d1_192) (by decide) (by decide) k) ?_
    show own_Ends p e below s _ _ _ (s₁.setTop (mkF m 196 #[.val (.int p0)] [(.int (1 : Int32))]))
    exact B1_196 hF
  have B1_196b (hF : f1_0 p0 = f1_196b p0) : own_Ends p e below s ({ frames := 0, cells := 0, slots := 0, locals := 0 } : Room).cells ({ frames := 0, cells := 0, slots := 0, locals := 0 } : Room).slots (Q1 Z p0 h0 n0) (s₁.setTop (mkF m 196 #[.val (.int p0)] [(.int (0 : Int32))])) := by
    show own_Ends p e below s _ _ _ (s₁.setTop (mkF m 196 #[.val (.int p0)] [(.int (0 : Int32))]))
    exact own_retN X0 hx hlk (t := .boolean) hret (by simp) (hb hby d1_196) (w := (0 : Int32)) (by decide) ⟨congrArg (fun w => some (Value.int w)) (Eq.symm hF), N0, e0⟩ (by decide) (by decide)
  have B1_195 (hF : f1_0 p0 = f1_195 p0) : own_Ends p e below s ({ frames := 0, cells := 0, slots := 0, locals := 0 } : Room).cells ({ frames := 0, cells := 0, slots := 0, locals := 0 } : Room).slots (Q1 Z p0 h0 n0) (s₁.setTop (mkF m 195 #[.val (.int p0)] [])) := by
    show own_Ends p e below s _ _ _ (s₁.setTop (mkF m 195 #[.val (.int p0)] []))
    refine own_step (fun t k => XS.iconst X0.here hx rfl (hb hby d1_195) k) ?_
    show own_Ends p e below s _ _ _ (s₁.setTop (mkF m 196 #[.val (.int p0)] [(.int (0 : Int32))]))
    exact B1_196b hF
  have B1_179 (hF : f1_0 p0 = f1_179 p0) : own_Ends p e below s ({ frames := 0, cells := 0, slots := 0, locals := 0 } : Room).cells ({ frames := 0, cells := 0, slots := 0, locals := 0 } : Room).slots (Q1 Z p0 h0 n0) (s₁.setTop (mkF m 179 #[.val (.int p0)] [])) := by
    show own_Ends p e below s _ _ _ (s₁.setTop (mkF m 179 #[.val (.int p0)] []))
    refine own_step (fun t k => XS.iloadN X0.here hx rfl (hb hby d1_179) rfl k) ?_
    show own_Ends p e below s _ _ _ (s₁.setTop (mkF m 180 #[.val (.int p0)] [(.int p0)]))
    refine own_step (fun t k => X0.ldcInt hx hown (mvT hZ (hw _ (List.mem_of_getElem? (i := 41) rfl))) (g := (mkF m 180 #[.val (.int p0)] [(.int p0)])) rfl (hb hby d1_180) t k) ?_
    show own_Ends p e below s _ _ _ (s₁.setTop (mkF m 182 #[.val (.int p0)] [(.int (65536 : Int32)), (.int p0)]))
    by_cases hc182_15 : p0 < (65536 : Int32)
    · -- p0 < (65536 : Int32)
      refine own_step (fun t k => XS.icmpYes X0.here hx rfl (pc0 := 182) (pc' := 195) rfl (hb hby d1_182) rfl (tlt hc182_15).1 (by decide) (by decide) k) ?_
      show own_Ends p e below s _ _ _ (s₁.setTop (mkF m 195 #[.val (.int p0)] []))
      exact B1_195 (hF.trans (if_pos hc182_15))
    · -- not p0 < (65536 : Int32)
      refine own_step (fun t k => XS.icmpNo X0.here hx rfl (hb hby d1_182) rfl (flt hc182_15).1 k) ?_
      show own_Ends p e below s _ _ _ (s₁.setTop (mkF m 185 #[.val (.int p0)] []))
      refine own_step (fun t k => XS.iloadN X0.here hx rfl (hb hby d1_185) rfl k) ?_
      show own_Ends p e below s _ _ _ (s₁.setTop (mkF m 186 #[.val (.int p0)] [(.int p0)]))
      refine own_step (fun t k => X0.ldcInt hx hown (mvT hZ (hw _ (List.mem_of_getElem? (i := 45) rfl))) (g := (mkF m 186 #[.val (.int p0)] [(.int p0)])) rfl (hb hby d1_186) t k) ?_
      show own_Ends p e below s _ _ _ (s₁.setTop (mkF m 188 #[.val (.int p0)] [(.int (983039 : Int32)), (.int p0)]))
      by_cases hc188_16 : (983039 : Int32) < p0
      · -- (983039 : Int32) < p0
        refine own_step (fun t k => XS.icmpYes X0.here hx rfl (pc0 := 188) (pc' := 195) rfl (hb hby d1_188) rfl (tlt hc188_16).2.2.1 (by decide) (by decide) k) ?_
        show own_Ends p e below s _ _ _ (s₁.setTop (mkF m 195 #[.val (.int p0)] []))
        exact B1_195 ((hF.trans (if_neg hc182_15)).trans (if_pos hc188_16))
      · -- not (983039 : Int32) < p0
        refine own_step (fun t k => XS.icmpNo X0.here hx rfl (hb hby d1_188) rfl (flt hc188_16).2.2.1 k) ?_
        show own_Ends p e below s _ _ _ (s₁.setTop (mkF m 191 #[.val (.int p0)] []))
        exact B1_191 ((hF.trans (if_neg hc182_15)).trans (if_neg hc188_16))
  have B1_167 (hF : f1_0 p0 = f1_167 p0) : own_Ends p e below s ({ frames := 0, cells := 0, slots := 0, locals := 0 } : Room).cells ({ frames := 0, cells := 0, slots := 0, locals := 0 } : Room).slots (Q1 Z p0 h0 n0) (s₁.setTop (mkF m 167 #[.val (.int p0)] [])) := by
    show own_Ends p e below s _ _ _ (s₁.setTop (mkF m 167 #[.val (.int p0)] []))
    refine own_step (fun t k => XS.iloadN X0.here hx rfl (hb hby d1_167) rfl k) ?_
    show own_Ends p e below s _ _ _ (s₁.setTop (mkF m 168 #[.val (.int p0)] [(.int p0)]))
    refine own_step (fun t k => X0.ldcInt hx hown (mvT hZ (hw _ (List.mem_of_getElem? (i := 40) rfl))) (g := (mkF m 168 #[.val (.int p0)] [(.int p0)])) rfl (hb hby d1_168) t k) ?_
    show own_Ends p e below s _ _ _ (s₁.setTop (mkF m 170 #[.val (.int p0)] [(.int (65008 : Int32)), (.int p0)]))
    by_cases hc170_14 : p0 < (65008 : Int32)
    · -- p0 < (65008 : Int32)
      refine own_step (fun t k => XS.icmpYes X0.here hx rfl (pc0 := 170) (pc' := 179) rfl (hb hby d1_170) rfl (tlt hc170_14).1 (by decide) (by decide) k) ?_
      show own_Ends p e below s _ _ _ (s₁.setTop (mkF m 179 #[.val (.int p0)] []))
      exact B1_179 (hF.trans (if_pos hc170_14))
    · -- not p0 < (65008 : Int32)
      refine own_step (fun t k => XS.icmpNo X0.here hx rfl (hb hby d1_170) rfl (flt hc170_14).1 k) ?_
      show own_Ends p e below s _ _ _ (s₁.setTop (mkF m 173 #[.val (.int p0)] []))
      refine own_step (fun t k => XS.iloadN X0.here hx rfl (hb hby d1_173) rfl k) ?_
      show own_Ends p e below s _ _ _ (s₁.setTop (mkF m 174 #[.val (.int p0)] [(.int p0)]))
      refine own_step (fun t k => X0.ldcInt hx hown (mvT hZ (hw _ (List.mem_of_getElem? (i := 44) rfl))) (g := (mkF m 174 #[.val (.int p0)] [(.int p0)])) rfl (hb hby d1_174) t k) ?_
      show own_Ends p e below s _ _ _ (s₁.setTop (mkF m 176 #[.val (.int p0)] [(.int (65533 : Int32)), (.int p0)]))
      by_cases hc176_17 : (65533 : Int32) < p0
      · -- (65533 : Int32) < p0
        refine own_step (fun t k => XS.icmpNo X0.here hx rfl (hb hby d1_176) rfl (tlt hc176_17).2.2.2 k) ?_
        show own_Ends p e below s _ _ _ (s₁.setTop (mkF m 179 #[.val (.int p0)] []))
        exact B1_179 ((hF.trans (if_neg hc170_14)).trans (if_pos hc176_17))
      · -- not (65533 : Int32) < p0
        refine own_step (fun t k => XS.icmpYes X0.here hx rfl (pc0 := 176) (pc' := 191) rfl (hb hby d1_176) rfl (flt hc176_17).2.2.2 (by decide) (by decide) k) ?_
        show own_Ends p e below s _ _ _ (s₁.setTop (mkF m 191 #[.val (.int p0)] []))
        exact B1_191 ((hF.trans (if_neg hc170_14)).trans (if_neg hc176_17))
  have B1_155 (hF : f1_0 p0 = f1_155 p0) : own_Ends p e below s ({ frames := 0, cells := 0, slots := 0, locals := 0 } : Room).cells ({ frames := 0, cells := 0, slots := 0, locals := 0 } : Room).slots (Q1 Z p0 h0 n0) (s₁.setTop (mkF m 155 #[.val (.int p0)] [])) := by
    show own_Ends p e below s _ _ _ (s₁.setTop (mkF m 155 #[.val (.int p0)] []))
    refine own_step (fun t k => XS.iloadN X0.here hx rfl (hb hby d1_155) rfl k) ?_
    show own_Ends p e below s _ _ _ (s₁.setTop (mkF m 156 #[.val (.int p0)] [(.int p0)]))
    refine own_step (fun t k => X0.ldcInt hx hown (mvT hZ (hw _ (List.mem_of_getElem? (i := 39) rfl))) (g := (mkF m 156 #[.val (.int p0)] [(.int p0)])) rfl (hb hby d1_156) t k) ?_
    show own_Ends p e below s _ _ _ (s₁.setTop (mkF m 158 #[.val (.int p0)] [(.int (63744 : Int32)), (.int p0)]))
    by_cases hc158_13 : p0 < (63744 : Int32)
    · -- p0 < (63744 : Int32)
      refine own_step (fun t k => XS.icmpYes X0.here hx rfl (pc0 := 158) (pc' := 167) rfl (hb hby d1_158) rfl (tlt hc158_13).1 (by decide) (by decide) k) ?_
      show own_Ends p e below s _ _ _ (s₁.setTop (mkF m 167 #[.val (.int p0)] []))
      exact B1_167 (hF.trans (if_pos hc158_13))
    · -- not p0 < (63744 : Int32)
      refine own_step (fun t k => XS.icmpNo X0.here hx rfl (hb hby d1_158) rfl (flt hc158_13).1 k) ?_
      show own_Ends p e below s _ _ _ (s₁.setTop (mkF m 161 #[.val (.int p0)] []))
      refine own_step (fun t k => XS.iloadN X0.here hx rfl (hb hby d1_161) rfl k) ?_
      show own_Ends p e below s _ _ _ (s₁.setTop (mkF m 162 #[.val (.int p0)] [(.int p0)]))
      refine own_step (fun t k => X0.ldcInt hx hown (mvT hZ (hw _ (List.mem_of_getElem? (i := 43) rfl))) (g := (mkF m 162 #[.val (.int p0)] [(.int p0)])) rfl (hb hby d1_162) t k) ?_
      show own_Ends p e below s _ _ _ (s₁.setTop (mkF m 164 #[.val (.int p0)] [(.int (64975 : Int32)), (.int p0)]))
      by_cases hc164_18 : (64975 : Int32) < p0
      · -- (64975 : Int32) < p0
        refine own_step (fun t k => XS.icmpNo X0.here hx rfl (hb hby d1_164) rfl (tlt hc164_18).2.2.2 k) ?_
        show own_Ends p e below s _ _ _ (s₁.setTop (mkF m 167 #[.val (.int p0)] []))
        exact B1_167 ((hF.trans (if_neg hc158_13)).trans (if_pos hc164_18))
      · -- not (64975 : Int32) < p0
        refine own_step (fun t k => XS.icmpYes X0.here hx rfl (pc0 := 164) (pc' := 191) rfl (hb hby d1_164) rfl (flt hc164_18).2.2.2 (by decide) (by decide) k) ?_
        show own_Ends p e below s _ _ _ (s₁.setTop (mkF m 191 #[.val (.int p0)] []))
        exact B1_191 ((hF.trans (if_neg hc158_13)).trans (if_neg hc164_18))
  have B1_142 (hF : f1_0 p0 = f1_142 p0) : own_Ends p e below s ({ frames := 0, cells := 0, slots := 0, locals := 0 } : Room).cells ({ frames := 0, cells := 0, slots := 0, locals := 0 } : Room).slots (Q1 Z p0 h0 n0) (s₁.setTop (mkF m 142 #[.val (.int p0)] [])) := by
    show own_Ends p e below s _ _ _ (s₁.setTop (mkF m 142 #[.val (.int p0)] []))
    refine own_step (fun t k => XS.iloadN X0.here hx rfl (hb hby d1_142) rfl k) ?_
    show own_Ends p e below s _ _ _ (s₁.setTop (mkF m 143 #[.val (.int p0)] [(.int p0)]))
    refine own_step (fun t k => XS.sipush X0.here hx rfl (hb hby d1_143) k) ?_
    show own_Ends p e below s _ _ _ (s₁.setTop (mkF m 146 #[.val (.int p0)] [(.int (12289 : Int32)), (.int p0)]))
    by_cases hc146_12 : p0 < (12289 : Int32)
    · -- p0 < (12289 : Int32)
      refine own_step (fun t k => XS.icmpYes X0.here hx rfl (pc0 := 146) (pc' := 155) rfl (hb hby d1_146) rfl (tlt hc146_12).1 (by decide) (by decide) k) ?_
      show own_Ends p e below s _ _ _ (s₁.setTop (mkF m 155 #[.val (.int p0)] []))
      exact B1_155 (hF.trans (if_pos hc146_12))
    · -- not p0 < (12289 : Int32)
      refine own_step (fun t k => XS.icmpNo X0.here hx rfl (hb hby d1_146) rfl (flt hc146_12).1 k) ?_
      show own_Ends p e below s _ _ _ (s₁.setTop (mkF m 149 #[.val (.int p0)] []))
      refine own_step (fun t k => XS.iloadN X0.here hx rfl (hb hby d1_149) rfl k) ?_
      show own_Ends p e below s _ _ _ (s₁.setTop (mkF m 150 #[.val (.int p0)] [(.int p0)]))
      refine own_step (fun t k => X0.ldcInt hx hown (mvT hZ (hw _ (List.mem_of_getElem? (i := 42) rfl))) (g := (mkF m 150 #[.val (.int p0)] [(.int p0)])) rfl (hb hby d1_150) t k) ?_
      show own_Ends p e below s _ _ _ (s₁.setTop (mkF m 152 #[.val (.int p0)] [(.int (55295 : Int32)), (.int p0)]))
      by_cases hc152_19 : (55295 : Int32) < p0
      · -- (55295 : Int32) < p0
        refine own_step (fun t k => XS.icmpNo X0.here hx rfl (hb hby d1_152) rfl (tlt hc152_19).2.2.2 k) ?_
        show own_Ends p e below s _ _ _ (s₁.setTop (mkF m 155 #[.val (.int p0)] []))
        exact B1_155 ((hF.trans (if_neg hc146_12)).trans (if_pos hc152_19))
      · -- not (55295 : Int32) < p0
        refine own_step (fun t k => XS.icmpYes X0.here hx rfl (pc0 := 152) (pc' := 191) rfl (hb hby d1_152) rfl (flt hc152_19).2.2.2 (by decide) (by decide) k) ?_
        show own_Ends p e below s _ _ _ (s₁.setTop (mkF m 191 #[.val (.int p0)] []))
        exact B1_191 ((hF.trans (if_neg hc146_12)).trans (if_neg hc152_19))
  have B1_128 (hF : f1_0 p0 = f1_128 p0) : own_Ends p e below s ({ frames := 0, cells := 0, slots := 0, locals := 0 } : Room).cells ({ frames := 0, cells := 0, slots := 0, locals := 0 } : Room).slots (Q1 Z p0 h0 n0) (s₁.setTop (mkF m 128 #[.val (.int p0)] [])) := by
    show own_Ends p e below s _ _ _ (s₁.setTop (mkF m 128 #[.val (.int p0)] []))
    refine own_step (fun t k => XS.iloadN X0.here hx rfl (hb hby d1_128) rfl k) ?_
    show own_Ends p e below s _ _ _ (s₁.setTop (mkF m 129 #[.val (.int p0)] [(.int p0)]))
    refine own_step (fun t k => XS.sipush X0.here hx rfl (hb hby d1_129) k) ?_
    show own_Ends p e below s _ _ _ (s₁.setTop (mkF m 132 #[.val (.int p0)] [(.int (11264 : Int32)), (.int p0)]))
    by_cases hc132_11 : p0 < (11264 : Int32)
    · -- p0 < (11264 : Int32)
      refine own_step (fun t k => XS.icmpYes X0.here hx rfl (pc0 := 132) (pc' := 142) rfl (hb hby d1_132) rfl (tlt hc132_11).1 (by decide) (by decide) k) ?_
      show own_Ends p e below s _ _ _ (s₁.setTop (mkF m 142 #[.val (.int p0)] []))
      exact B1_142 (hF.trans (if_pos hc132_11))
    · -- not p0 < (11264 : Int32)
      refine own_step (fun t k => XS.icmpNo X0.here hx rfl (hb hby d1_132) rfl (flt hc132_11).1 k) ?_
      show own_Ends p e below s _ _ _ (s₁.setTop (mkF m 135 #[.val (.int p0)] []))
      refine own_step (fun t k => XS.iloadN X0.here hx rfl (hb hby d1_135) rfl k) ?_
      show own_Ends p e below s _ _ _ (s₁.setTop (mkF m 136 #[.val (.int p0)] [(.int p0)]))
      refine own_step (fun t k => XS.sipush X0.here hx rfl (hb hby d1_136) k) ?_
      show own_Ends p e below s _ _ _ (s₁.setTop (mkF m 139 #[.val (.int p0)] [(.int (12271 : Int32)), (.int p0)]))
      by_cases hc139_20 : (12271 : Int32) < p0
      · -- (12271 : Int32) < p0
        refine own_step (fun t k => XS.icmpNo X0.here hx rfl (hb hby d1_139) rfl (tlt hc139_20).2.2.2 k) ?_
        show own_Ends p e below s _ _ _ (s₁.setTop (mkF m 142 #[.val (.int p0)] []))
        exact B1_142 ((hF.trans (if_neg hc132_11)).trans (if_pos hc139_20))
      · -- not (12271 : Int32) < p0
        refine own_step (fun t k => XS.icmpYes X0.here hx rfl (pc0 := 139) (pc' := 191) rfl (hb hby d1_139) rfl (flt hc139_20).2.2.2 (by decide) (by decide) k) ?_
        show own_Ends p e below s _ _ _ (s₁.setTop (mkF m 191 #[.val (.int p0)] []))
        exact B1_191 ((hF.trans (if_neg hc132_11)).trans (if_neg hc139_20))
  have B1_114 (hF : f1_0 p0 = f1_114 p0) : own_Ends p e below s ({ frames := 0, cells := 0, slots := 0, locals := 0 } : Room).cells ({ frames := 0, cells := 0, slots := 0, locals := 0 } : Room).slots (Q1 Z p0 h0 n0) (s₁.setTop (mkF m 114 #[.val (.int p0)] [])) := by
    show own_Ends p e below s _ _ _ (s₁.setTop (mkF m 114 #[.val (.int p0)] []))
    refine own_step (fun t k => XS.iloadN X0.here hx rfl (hb hby d1_114) rfl k) ?_
    show own_Ends p e below s _ _ _ (s₁.setTop (mkF m 115 #[.val (.int p0)] [(.int p0)]))
    refine own_step (fun t k => XS.sipush X0.here hx rfl (hb hby d1_115) k) ?_
    show own_Ends p e below s _ _ _ (s₁.setTop (mkF m 118 #[.val (.int p0)] [(.int (8304 : Int32)), (.int p0)]))
    by_cases hc118_10 : p0 < (8304 : Int32)
    · -- p0 < (8304 : Int32)
      refine own_step (fun t k => XS.icmpYes X0.here hx rfl (pc0 := 118) (pc' := 128) rfl (hb hby d1_118) rfl (tlt hc118_10).1 (by decide) (by decide) k) ?_
      show own_Ends p e below s _ _ _ (s₁.setTop (mkF m 128 #[.val (.int p0)] []))
      exact B1_128 (hF.trans (if_pos hc118_10))
    · -- not p0 < (8304 : Int32)
      refine own_step (fun t k => XS.icmpNo X0.here hx rfl (hb hby d1_118) rfl (flt hc118_10).1 k) ?_
      show own_Ends p e below s _ _ _ (s₁.setTop (mkF m 121 #[.val (.int p0)] []))
      refine own_step (fun t k => XS.iloadN X0.here hx rfl (hb hby d1_121) rfl k) ?_
      show own_Ends p e below s _ _ _ (s₁.setTop (mkF m 122 #[.val (.int p0)] [(.int p0)]))
      refine own_step (fun t k => XS.sipush X0.here hx rfl (hb hby d1_122) k) ?_
      show own_Ends p e below s _ _ _ (s₁.setTop (mkF m 125 #[.val (.int p0)] [(.int (8591 : Int32)), (.int p0)]))
      by_cases hc125_21 : (8591 : Int32) < p0
      · -- (8591 : Int32) < p0
        refine own_step (fun t k => XS.icmpNo X0.here hx rfl (hb hby d1_125) rfl (tlt hc125_21).2.2.2 k) ?_
        show own_Ends p e below s _ _ _ (s₁.setTop (mkF m 128 #[.val (.int p0)] []))
        exact B1_128 ((hF.trans (if_neg hc118_10)).trans (if_pos hc125_21))
      · -- not (8591 : Int32) < p0
        refine own_step (fun t k => XS.icmpYes X0.here hx rfl (pc0 := 125) (pc' := 191) rfl (hb hby d1_125) rfl (flt hc125_21).2.2.2 (by decide) (by decide) k) ?_
        show own_Ends p e below s _ _ _ (s₁.setTop (mkF m 191 #[.val (.int p0)] []))
        exact B1_191 ((hF.trans (if_neg hc118_10)).trans (if_neg hc125_21))
  have B1_100 (hF : f1_0 p0 = f1_100 p0) : own_Ends p e below s ({ frames := 0, cells := 0, slots := 0, locals := 0 } : Room).cells ({ frames := 0, cells := 0, slots := 0, locals := 0 } : Room).slots (Q1 Z p0 h0 n0) (s₁.setTop (mkF m 100 #[.val (.int p0)] [])) := by
    show own_Ends p e below s _ _ _ (s₁.setTop (mkF m 100 #[.val (.int p0)] []))
    refine own_step (fun t k => XS.iloadN X0.here hx rfl (hb hby d1_100) rfl k) ?_
    show own_Ends p e below s _ _ _ (s₁.setTop (mkF m 101 #[.val (.int p0)] [(.int p0)]))
    refine own_step (fun t k => XS.sipush X0.here hx rfl (hb hby d1_101) k) ?_
    show own_Ends p e below s _ _ _ (s₁.setTop (mkF m 104 #[.val (.int p0)] [(.int (8204 : Int32)), (.int p0)]))
    by_cases hc104_9 : p0 < (8204 : Int32)
    · -- p0 < (8204 : Int32)
      refine own_step (fun t k => XS.icmpYes X0.here hx rfl (pc0 := 104) (pc' := 114) rfl (hb hby d1_104) rfl (tlt hc104_9).1 (by decide) (by decide) k) ?_
      show own_Ends p e below s _ _ _ (s₁.setTop (mkF m 114 #[.val (.int p0)] []))
      exact B1_114 (hF.trans (if_pos hc104_9))
    · -- not p0 < (8204 : Int32)
      refine own_step (fun t k => XS.icmpNo X0.here hx rfl (hb hby d1_104) rfl (flt hc104_9).1 k) ?_
      show own_Ends p e below s _ _ _ (s₁.setTop (mkF m 107 #[.val (.int p0)] []))
      refine own_step (fun t k => XS.iloadN X0.here hx rfl (hb hby d1_107) rfl k) ?_
      show own_Ends p e below s _ _ _ (s₁.setTop (mkF m 108 #[.val (.int p0)] [(.int p0)]))
      refine own_step (fun t k => XS.sipush X0.here hx rfl (hb hby d1_108) k) ?_
      show own_Ends p e below s _ _ _ (s₁.setTop (mkF m 111 #[.val (.int p0)] [(.int (8205 : Int32)), (.int p0)]))
      by_cases hc111_22 : (8205 : Int32) < p0
      · -- (8205 : Int32) < p0
        refine own_step (fun t k => XS.icmpNo X0.here hx rfl (hb hby d1_111) rfl (tlt hc111_22).2.2.2 k) ?_
        show own_Ends p e below s _ _ _ (s₁.setTop (mkF m 114 #[.val (.int p0)] []))
        exact B1_114 ((hF.trans (if_neg hc104_9)).trans (if_pos hc111_22))
      · -- not (8205 : Int32) < p0
        refine own_step (fun t k => XS.icmpYes X0.here hx rfl (pc0 := 111) (pc' := 191) rfl (hb hby d1_111) rfl (flt hc111_22).2.2.2 (by decide) (by decide) k) ?_
        show own_Ends p e below s _ _ _ (s₁.setTop (mkF m 191 #[.val (.int p0)] []))
        exact B1_191 ((hF.trans (if_neg hc104_9)).trans (if_neg hc111_22))
  have B1_86 (hF : f1_0 p0 = f1_86 p0) : own_Ends p e below s ({ frames := 0, cells := 0, slots := 0, locals := 0 } : Room).cells ({ frames := 0, cells := 0, slots := 0, locals := 0 } : Room).slots (Q1 Z p0 h0 n0) (s₁.setTop (mkF m 86 #[.val (.int p0)] [])) := by
    show own_Ends p e below s _ _ _ (s₁.setTop (mkF m 86 #[.val (.int p0)] []))
    refine own_step (fun t k => XS.iloadN X0.here hx rfl (hb hby d1_86) rfl k) ?_
    show own_Ends p e below s _ _ _ (s₁.setTop (mkF m 87 #[.val (.int p0)] [(.int p0)]))
    refine own_step (fun t k => XS.sipush X0.here hx rfl (hb hby d1_87) k) ?_
    show own_Ends p e below s _ _ _ (s₁.setTop (mkF m 90 #[.val (.int p0)] [(.int (895 : Int32)), (.int p0)]))
    by_cases hc90_8 : p0 < (895 : Int32)
    · -- p0 < (895 : Int32)
      refine own_step (fun t k => XS.icmpYes X0.here hx rfl (pc0 := 90) (pc' := 100) rfl (hb hby d1_90) rfl (tlt hc90_8).1 (by decide) (by decide) k) ?_
      show own_Ends p e below s _ _ _ (s₁.setTop (mkF m 100 #[.val (.int p0)] []))
      exact B1_100 (hF.trans (if_pos hc90_8))
    · -- not p0 < (895 : Int32)
      refine own_step (fun t k => XS.icmpNo X0.here hx rfl (hb hby d1_90) rfl (flt hc90_8).1 k) ?_
      show own_Ends p e below s _ _ _ (s₁.setTop (mkF m 93 #[.val (.int p0)] []))
      refine own_step (fun t k => XS.iloadN X0.here hx rfl (hb hby d1_93) rfl k) ?_
      show own_Ends p e below s _ _ _ (s₁.setTop (mkF m 94 #[.val (.int p0)] [(.int p0)]))
      refine own_step (fun t k => XS.sipush X0.here hx rfl (hb hby d1_94) k) ?_
      show own_Ends p e below s _ _ _ (s₁.setTop (mkF m 97 #[.val (.int p0)] [(.int (8191 : Int32)), (.int p0)]))
      by_cases hc97_23 : (8191 : Int32) < p0
      · -- (8191 : Int32) < p0
        refine own_step (fun t k => XS.icmpNo X0.here hx rfl (hb hby d1_97) rfl (tlt hc97_23).2.2.2 k) ?_
        show own_Ends p e below s _ _ _ (s₁.setTop (mkF m 100 #[.val (.int p0)] []))
        exact B1_100 ((hF.trans (if_neg hc90_8)).trans (if_pos hc97_23))
      · -- not (8191 : Int32) < p0
        refine own_step (fun t k => XS.icmpYes X0.here hx rfl (pc0 := 97) (pc' := 191) rfl (hb hby d1_97) rfl (flt hc97_23).2.2.2 (by decide) (by decide) k) ?_
        show own_Ends p e below s _ _ _ (s₁.setTop (mkF m 191 #[.val (.int p0)] []))
        exact B1_191 ((hF.trans (if_neg hc90_8)).trans (if_neg hc97_23))
  have B1_72 (hF : f1_0 p0 = f1_72 p0) : own_Ends p e below s ({ frames := 0, cells := 0, slots := 0, locals := 0 } : Room).cells ({ frames := 0, cells := 0, slots := 0, locals := 0 } : Room).slots (Q1 Z p0 h0 n0) (s₁.setTop (mkF m 72 #[.val (.int p0)] [])) := by
    show own_Ends p e below s _ _ _ (s₁.setTop (mkF m 72 #[.val (.int p0)] []))
    refine own_step (fun t k => XS.iloadN X0.here hx rfl (hb hby d1_72) rfl k) ?_
    show own_Ends p e below s _ _ _ (s₁.setTop (mkF m 73 #[.val (.int p0)] [(.int p0)]))
    refine own_step (fun t k => XS.sipush X0.here hx rfl (hb hby d1_73) k) ?_
    show own_Ends p e below s _ _ _ (s₁.setTop (mkF m 76 #[.val (.int p0)] [(.int (880 : Int32)), (.int p0)]))
    by_cases hc76_7 : p0 < (880 : Int32)
    · -- p0 < (880 : Int32)
      refine own_step (fun t k => XS.icmpYes X0.here hx rfl (pc0 := 76) (pc' := 86) rfl (hb hby d1_76) rfl (tlt hc76_7).1 (by decide) (by decide) k) ?_
      show own_Ends p e below s _ _ _ (s₁.setTop (mkF m 86 #[.val (.int p0)] []))
      exact B1_86 (hF.trans (if_pos hc76_7))
    · -- not p0 < (880 : Int32)
      refine own_step (fun t k => XS.icmpNo X0.here hx rfl (hb hby d1_76) rfl (flt hc76_7).1 k) ?_
      show own_Ends p e below s _ _ _ (s₁.setTop (mkF m 79 #[.val (.int p0)] []))
      refine own_step (fun t k => XS.iloadN X0.here hx rfl (hb hby d1_79) rfl k) ?_
      show own_Ends p e below s _ _ _ (s₁.setTop (mkF m 80 #[.val (.int p0)] [(.int p0)]))
      refine own_step (fun t k => XS.sipush X0.here hx rfl (hb hby d1_80) k) ?_
      show own_Ends p e below s _ _ _ (s₁.setTop (mkF m 83 #[.val (.int p0)] [(.int (893 : Int32)), (.int p0)]))
      by_cases hc83_24 : (893 : Int32) < p0
      · -- (893 : Int32) < p0
        refine own_step (fun t k => XS.icmpNo X0.here hx rfl (hb hby d1_83) rfl (tlt hc83_24).2.2.2 k) ?_
        show own_Ends p e below s _ _ _ (s₁.setTop (mkF m 86 #[.val (.int p0)] []))
        exact B1_86 ((hF.trans (if_neg hc76_7)).trans (if_pos hc83_24))
      · -- not (893 : Int32) < p0
        refine own_step (fun t k => XS.icmpYes X0.here hx rfl (pc0 := 83) (pc' := 191) rfl (hb hby d1_83) rfl (flt hc83_24).2.2.2 (by decide) (by decide) k) ?_
        show own_Ends p e below s _ _ _ (s₁.setTop (mkF m 191 #[.val (.int p0)] []))
        exact B1_191 ((hF.trans (if_neg hc76_7)).trans (if_neg hc83_24))
  have B1_58 (hF : f1_0 p0 = f1_58 p0) : own_Ends p e below s ({ frames := 0, cells := 0, slots := 0, locals := 0 } : Room).cells ({ frames := 0, cells := 0, slots := 0, locals := 0 } : Room).slots (Q1 Z p0 h0 n0) (s₁.setTop (mkF m 58 #[.val (.int p0)] [])) := by
    show own_Ends p e below s _ _ _ (s₁.setTop (mkF m 58 #[.val (.int p0)] []))
    refine own_step (fun t k => XS.iloadN X0.here hx rfl (hb hby d1_58) rfl k) ?_
    show own_Ends p e below s _ _ _ (s₁.setTop (mkF m 59 #[.val (.int p0)] [(.int p0)]))
    refine own_step (fun t k => XS.sipush X0.here hx rfl (hb hby d1_59) k) ?_
    show own_Ends p e below s _ _ _ (s₁.setTop (mkF m 62 #[.val (.int p0)] [(.int (248 : Int32)), (.int p0)]))
    by_cases hc62_6 : p0 < (248 : Int32)
    · -- p0 < (248 : Int32)
      refine own_step (fun t k => XS.icmpYes X0.here hx rfl (pc0 := 62) (pc' := 72) rfl (hb hby d1_62) rfl (tlt hc62_6).1 (by decide) (by decide) k) ?_
      show own_Ends p e below s _ _ _ (s₁.setTop (mkF m 72 #[.val (.int p0)] []))
      exact B1_72 (hF.trans (if_pos hc62_6))
    · -- not p0 < (248 : Int32)
      refine own_step (fun t k => XS.icmpNo X0.here hx rfl (hb hby d1_62) rfl (flt hc62_6).1 k) ?_
      show own_Ends p e below s _ _ _ (s₁.setTop (mkF m 65 #[.val (.int p0)] []))
      refine own_step (fun t k => XS.iloadN X0.here hx rfl (hb hby d1_65) rfl k) ?_
      show own_Ends p e below s _ _ _ (s₁.setTop (mkF m 66 #[.val (.int p0)] [(.int p0)]))
      refine own_step (fun t k => XS.sipush X0.here hx rfl (hb hby d1_66) k) ?_
      show own_Ends p e below s _ _ _ (s₁.setTop (mkF m 69 #[.val (.int p0)] [(.int (767 : Int32)), (.int p0)]))
      by_cases hc69_25 : (767 : Int32) < p0
      · -- (767 : Int32) < p0
        refine own_step (fun t k => XS.icmpNo X0.here hx rfl (hb hby d1_69) rfl (tlt hc69_25).2.2.2 k) ?_
        show own_Ends p e below s _ _ _ (s₁.setTop (mkF m 72 #[.val (.int p0)] []))
        exact B1_72 ((hF.trans (if_neg hc62_6)).trans (if_pos hc69_25))
      · -- not (767 : Int32) < p0
        refine own_step (fun t k => XS.icmpYes X0.here hx rfl (pc0 := 69) (pc' := 191) rfl (hb hby d1_69) rfl (flt hc69_25).2.2.2 (by decide) (by decide) k) ?_
        show own_Ends p e below s _ _ _ (s₁.setTop (mkF m 191 #[.val (.int p0)] []))
        exact B1_191 ((hF.trans (if_neg hc62_6)).trans (if_neg hc69_25))
  have B1_44 (hF : f1_0 p0 = f1_44 p0) : own_Ends p e below s ({ frames := 0, cells := 0, slots := 0, locals := 0 } : Room).cells ({ frames := 0, cells := 0, slots := 0, locals := 0 } : Room).slots (Q1 Z p0 h0 n0) (s₁.setTop (mkF m 44 #[.val (.int p0)] [])) := by
    show own_Ends p e below s _ _ _ (s₁.setTop (mkF m 44 #[.val (.int p0)] []))
    refine own_step (fun t k => XS.iloadN X0.here hx rfl (hb hby d1_44) rfl k) ?_
    show own_Ends p e below s _ _ _ (s₁.setTop (mkF m 45 #[.val (.int p0)] [(.int p0)]))
    refine own_step (fun t k => XS.sipush X0.here hx rfl (hb hby d1_45) k) ?_
    show own_Ends p e below s _ _ _ (s₁.setTop (mkF m 48 #[.val (.int p0)] [(.int (216 : Int32)), (.int p0)]))
    by_cases hc48_5 : p0 < (216 : Int32)
    · -- p0 < (216 : Int32)
      refine own_step (fun t k => XS.icmpYes X0.here hx rfl (pc0 := 48) (pc' := 58) rfl (hb hby d1_48) rfl (tlt hc48_5).1 (by decide) (by decide) k) ?_
      show own_Ends p e below s _ _ _ (s₁.setTop (mkF m 58 #[.val (.int p0)] []))
      exact B1_58 (hF.trans (if_pos hc48_5))
    · -- not p0 < (216 : Int32)
      refine own_step (fun t k => XS.icmpNo X0.here hx rfl (hb hby d1_48) rfl (flt hc48_5).1 k) ?_
      show own_Ends p e below s _ _ _ (s₁.setTop (mkF m 51 #[.val (.int p0)] []))
      refine own_step (fun t k => XS.iloadN X0.here hx rfl (hb hby d1_51) rfl k) ?_
      show own_Ends p e below s _ _ _ (s₁.setTop (mkF m 52 #[.val (.int p0)] [(.int p0)]))
      refine own_step (fun t k => XS.sipush X0.here hx rfl (hb hby d1_52) k) ?_
      show own_Ends p e below s _ _ _ (s₁.setTop (mkF m 55 #[.val (.int p0)] [(.int (246 : Int32)), (.int p0)]))
      by_cases hc55_26 : (246 : Int32) < p0
      · -- (246 : Int32) < p0
        refine own_step (fun t k => XS.icmpNo X0.here hx rfl (hb hby d1_55) rfl (tlt hc55_26).2.2.2 k) ?_
        show own_Ends p e below s _ _ _ (s₁.setTop (mkF m 58 #[.val (.int p0)] []))
        exact B1_58 ((hF.trans (if_neg hc48_5)).trans (if_pos hc55_26))
      · -- not (246 : Int32) < p0
        refine own_step (fun t k => XS.icmpYes X0.here hx rfl (pc0 := 55) (pc' := 191) rfl (hb hby d1_55) rfl (flt hc55_26).2.2.2 (by decide) (by decide) k) ?_
        show own_Ends p e below s _ _ _ (s₁.setTop (mkF m 191 #[.val (.int p0)] []))
        exact B1_191 ((hF.trans (if_neg hc48_5)).trans (if_neg hc55_26))
  have B1_24 (hF : f1_0 p0 = f1_24 p0) : own_Ends p e below s ({ frames := 0, cells := 0, slots := 0, locals := 0 } : Room).cells ({ frames := 0, cells := 0, slots := 0, locals := 0 } : Room).slots (Q1 Z p0 h0 n0) (s₁.setTop (mkF m 24 #[.val (.int p0)] [])) := by
    show own_Ends p e below s _ _ _ (s₁.setTop (mkF m 24 #[.val (.int p0)] []))
    refine own_step (fun t k => XS.iloadN X0.here hx rfl (hb hby d1_24) rfl k) ?_
    show own_Ends p e below s _ _ _ (s₁.setTop (mkF m 25 #[.val (.int p0)] [(.int p0)]))
    refine own_step (fun t k => XS.bipush X0.here hx rfl (hb hby d1_25) k) ?_
    show own_Ends p e below s _ _ _ (s₁.setTop (mkF m 27 #[.val (.int p0)] [(.int (95 : Int32)), (.int p0)]))
    by_cases hc27_3 : p0 = (95 : Int32)
    · -- p0 = (95 : Int32)
      refine own_step (fun t k => XS.icmpYes X0.here hx rfl (pc0 := 27) (pc' := 191) rfl (hb hby d1_27) rfl (teq hc27_3).1 (by decide) (by decide) k) ?_
      show own_Ends p e below s _ _ _ (s₁.setTop (mkF m 191 #[.val (.int p0)] []))
      exact B1_191 (hF.trans (if_pos hc27_3))
    · -- not p0 = (95 : Int32)
      refine own_step (fun t k => XS.icmpNo X0.here hx rfl (hb hby d1_27) rfl (feq hc27_3).1 k) ?_
      show own_Ends p e below s _ _ _ (s₁.setTop (mkF m 30 #[.val (.int p0)] []))
      refine own_step (fun t k => XS.iloadN X0.here hx rfl (hb hby d1_30) rfl k) ?_
      show own_Ends p e below s _ _ _ (s₁.setTop (mkF m 31 #[.val (.int p0)] [(.int p0)]))
      refine own_step (fun t k => XS.sipush X0.here hx rfl (hb hby d1_31) k) ?_
      show own_Ends p e below s _ _ _ (s₁.setTop (mkF m 34 #[.val (.int p0)] [(.int (192 : Int32)), (.int p0)]))
      by_cases hc34_4 : p0 < (192 : Int32)
      · -- p0 < (192 : Int32)
        refine own_step (fun t k => XS.icmpYes X0.here hx rfl (pc0 := 34) (pc' := 44) rfl (hb hby d1_34) rfl (tlt hc34_4).1 (by decide) (by decide) k) ?_
        show own_Ends p e below s _ _ _ (s₁.setTop (mkF m 44 #[.val (.int p0)] []))
        exact B1_44 ((hF.trans (if_neg hc27_3)).trans (if_pos hc34_4))
      · -- not p0 < (192 : Int32)
        refine own_step (fun t k => XS.icmpNo X0.here hx rfl (hb hby d1_34) rfl (flt hc34_4).1 k) ?_
        show own_Ends p e below s _ _ _ (s₁.setTop (mkF m 37 #[.val (.int p0)] []))
        refine own_step (fun t k => XS.iloadN X0.here hx rfl (hb hby d1_37) rfl k) ?_
        show own_Ends p e below s _ _ _ (s₁.setTop (mkF m 38 #[.val (.int p0)] [(.int p0)]))
        refine own_step (fun t k => XS.sipush X0.here hx rfl (hb hby d1_38) k) ?_
        show own_Ends p e below s _ _ _ (s₁.setTop (mkF m 41 #[.val (.int p0)] [(.int (214 : Int32)), (.int p0)]))
        by_cases hc41_27 : (214 : Int32) < p0
        · -- (214 : Int32) < p0
          refine own_step (fun t k => XS.icmpNo X0.here hx rfl (hb hby d1_41) rfl (tlt hc41_27).2.2.2 k) ?_
          show own_Ends p e below s _ _ _ (s₁.setTop (mkF m 44 #[.val (.int p0)] []))
          exact B1_44 (((hF.trans (if_neg hc27_3)).trans (if_neg hc34_4)).trans (if_pos hc41_27))
        · -- not (214 : Int32) < p0
          refine own_step (fun t k => XS.icmpYes X0.here hx rfl (pc0 := 41) (pc' := 191) rfl (hb hby d1_41) rfl (flt hc41_27).2.2.2 (by decide) (by decide) k) ?_
          show own_Ends p e below s _ _ _ (s₁.setTop (mkF m 191 #[.val (.int p0)] []))
          exact B1_191 (((hF.trans (if_neg hc27_3)).trans (if_neg hc34_4)).trans (if_neg hc41_27))
  have B1_12 (hF : f1_0 p0 = f1_12 p0) : own_Ends p e below s ({ frames := 0, cells := 0, slots := 0, locals := 0 } : Room).cells ({ frames := 0, cells := 0, slots := 0, locals := 0 } : Room).slots (Q1 Z p0 h0 n0) (s₁.setTop (mkF m 12 #[.val (.int p0)] [])) := by
    show own_Ends p e below s _ _ _ (s₁.setTop (mkF m 12 #[.val (.int p0)] []))
    refine own_step (fun t k => XS.iloadN X0.here hx rfl (hb hby d1_12) rfl k) ?_
    show own_Ends p e below s _ _ _ (s₁.setTop (mkF m 13 #[.val (.int p0)] [(.int p0)]))
    refine own_step (fun t k => XS.bipush X0.here hx rfl (hb hby d1_13) k) ?_
    show own_Ends p e below s _ _ _ (s₁.setTop (mkF m 15 #[.val (.int p0)] [(.int (65 : Int32)), (.int p0)]))
    by_cases hc15_2 : p0 < (65 : Int32)
    · -- p0 < (65 : Int32)
      refine own_step (fun t k => XS.icmpYes X0.here hx rfl (pc0 := 15) (pc' := 24) rfl (hb hby d1_15) rfl (tlt hc15_2).1 (by decide) (by decide) k) ?_
      show own_Ends p e below s _ _ _ (s₁.setTop (mkF m 24 #[.val (.int p0)] []))
      exact B1_24 (hF.trans (if_pos hc15_2))
    · -- not p0 < (65 : Int32)
      refine own_step (fun t k => XS.icmpNo X0.here hx rfl (hb hby d1_15) rfl (flt hc15_2).1 k) ?_
      show own_Ends p e below s _ _ _ (s₁.setTop (mkF m 18 #[.val (.int p0)] []))
      refine own_step (fun t k => XS.iloadN X0.here hx rfl (hb hby d1_18) rfl k) ?_
      show own_Ends p e below s _ _ _ (s₁.setTop (mkF m 19 #[.val (.int p0)] [(.int p0)]))
      refine own_step (fun t k => XS.bipush X0.here hx rfl (hb hby d1_19) k) ?_
      show own_Ends p e below s _ _ _ (s₁.setTop (mkF m 21 #[.val (.int p0)] [(.int (90 : Int32)), (.int p0)]))
      by_cases hc21_28 : (90 : Int32) < p0
      · -- (90 : Int32) < p0
        refine own_step (fun t k => XS.icmpNo X0.here hx rfl (hb hby d1_21) rfl (tlt hc21_28).2.2.2 k) ?_
        show own_Ends p e below s _ _ _ (s₁.setTop (mkF m 24 #[.val (.int p0)] []))
        exact B1_24 ((hF.trans (if_neg hc15_2)).trans (if_pos hc21_28))
      · -- not (90 : Int32) < p0
        refine own_step (fun t k => XS.icmpYes X0.here hx rfl (pc0 := 21) (pc' := 191) rfl (hb hby d1_21) rfl (flt hc21_28).2.2.2 (by decide) (by decide) k) ?_
        show own_Ends p e below s _ _ _ (s₁.setTop (mkF m 191 #[.val (.int p0)] []))
        exact B1_191 ((hF.trans (if_neg hc15_2)).trans (if_neg hc21_28))
  show own_Ends p e below s _ _ _ (s₁.setTop (mkF m 0 #[.val (.int p0)] []))
  refine own_step (fun t k => XS.iloadN X0.here hx rfl (hb hby d1_0) rfl k) ?_
  show own_Ends p e below s _ _ _ (s₁.setTop (mkF m 1 #[.val (.int p0)] [(.int p0)]))
  refine own_step (fun t k => XS.bipush X0.here hx rfl (hb hby d1_1) k) ?_
  show own_Ends p e below s _ _ _ (s₁.setTop (mkF m 3 #[.val (.int p0)] [(.int (97 : Int32)), (.int p0)]))
  by_cases hc3_1 : p0 < (97 : Int32)
  · -- p0 < (97 : Int32)
    refine own_step (fun t k => XS.icmpYes X0.here hx rfl (pc0 := 3) (pc' := 12) rfl (hb hby d1_3) rfl (tlt hc3_1).1 (by decide) (by decide) k) ?_
    show own_Ends p e below s _ _ _ (s₁.setTop (mkF m 12 #[.val (.int p0)] []))
    exact B1_12 ((show f1_0 p0 = _ from rfl).trans (if_pos hc3_1))
  · -- not p0 < (97 : Int32)
    refine own_step (fun t k => XS.icmpNo X0.here hx rfl (hb hby d1_3) rfl (flt hc3_1).1 k) ?_
    show own_Ends p e below s _ _ _ (s₁.setTop (mkF m 6 #[.val (.int p0)] []))
    refine own_step (fun t k => XS.iloadN X0.here hx rfl (hb hby d1_6) rfl k) ?_
    show own_Ends p e below s _ _ _ (s₁.setTop (mkF m 7 #[.val (.int p0)] [(.int p0)]))
    refine own_step (fun t k => XS.bipush X0.here hx rfl (hb hby d1_7) k) ?_
    show own_Ends p e below s _ _ _ (s₁.setTop (mkF m 9 #[.val (.int p0)] [(.int (122 : Int32)), (.int p0)]))
    by_cases hc9_29 : (122 : Int32) < p0
    · -- (122 : Int32) < p0
      refine own_step (fun t k => XS.icmpNo X0.here hx rfl (hb hby d1_9) rfl (tlt hc9_29).2.2.2 k) ?_
      show own_Ends p e below s _ _ _ (s₁.setTop (mkF m 12 #[.val (.int p0)] []))
      exact B1_12 (((show f1_0 p0 = _ from rfl).trans (if_neg hc3_1)).trans (if_pos hc9_29))
    · -- not (122 : Int32) < p0
      refine own_step (fun t k => XS.icmpYes X0.here hx rfl (pc0 := 9) (pc' := 191) rfl (hb hby d1_9) rfl (flt hc9_29).2.2.2 (by decide) (by decide) k) ?_
      show own_Ends p e below s _ _ _ (s₁.setTop (mkF m 191 #[.val (.int p0)] []))
      exact B1_191 (((show f1_0 p0 = _ from rfl).trans (if_neg hc3_1)).trans (if_neg hc9_29))
def own_list : List Int64 := [-2147483648, 65, 91, 95, 96, 97, 123, 192, 215, 216, 247, 248, 768, 880, 894, 895, 8192, 8204, 8206, 8304, 8592, 11264, 12272, 12289, 55296, 63744, 64976, 65008, 65534, 65536, 983040, 2147483648]
def own_tab (k : Nat) : Int64 := own_list.getD k 0
theorem own_congr {Z : State} {h : Heap} {a : Addr} {n : Nat} {f g : Nat → Int64} (A : own_AJ Z h a n f) (q : ∀ k : Fin n, f k.1 = g k.1) : own_AJ Z h a n g := by
  obtain ⟨c, A1, A2, A3⟩ := A
  exact ⟨c, A1, A2, fun k hk => by rw [A3 k hk]; exact congrArg (fun w => some (Value.long w)) (q ⟨k, hk⟩)⟩
theorem own_rem (k : Int32) : 0 ≤ ((k &&& (2147483647 : Int32)) % (31 : Int32)).toInt ∧ ((k &&& (2147483647 : Int32)) % (31 : Int32)).toInt < 31 := by
  have e1 := c_mask k 2147483647 31 (by decide) (by decide)
  have e2 := (c_irem (k &&& (2147483647 : Int32)) (31 : Int32) 31 (by decide)).1
  omega
theorem own_nat {z : Int32} (h : 0 ≤ z.toInt ∧ z.toInt < 31) : ∃ i : Nat, z.toInt = (i : Int) ∧ i < 31 := ⟨z.toInt.toNat, by omega, by omega⟩
theorem own_nat1 {z : Int32} {i : Nat} (h : z.toInt = (i : Int)) (hl : i < 31) : (z + (1 : Int32)).toInt = ((i + 1 : Nat) : Int) := by
  have a := c_iadd z 1
  have r := rng32 (z + 1)
  have o : (1 : Int32).toInt = 1 := by decide
  omega
theorem own_mono : ∀ i : Fin 31, (own_tab i.1).toInt < (own_tab (i.1 + 1)).toInt ∧ -2147483648 ≤ (own_tab i.1).toInt ∧ (own_tab (i.1 + 1)).toInt ≤ 2147483648 := by decide +kernel
theorem own_m0 (y : Int32) (h : y.toInt < 97 ∨ 122 < y.toInt) : f1_0 y = f1_12 y := by
  have z1 : (97 : Int32).toInt = 97 := by decide
  have z2 : (122 : Int32).toInt = 122 := by decide
  unfold f1_0
  by_cases c : y < (97 : Int32)
  · rw [if_pos c]
  · rw [if_neg c, if_pos (by rw [Int32.lt_iff_toInt_lt] at c ⊢; omega)]
theorem own_h0 (y : Int32) (h : 97 ≤ y.toInt ∧ y.toInt ≤ 122) : f1_0 y = (1 : Int32) := by
  have z1 : (97 : Int32).toInt = 97 := by decide
  have z2 : (122 : Int32).toInt = 122 := by decide
  unfold f1_0
  rw [if_neg (by rw [Int32.lt_iff_toInt_lt]; omega), if_neg (by rw [Int32.lt_iff_toInt_lt]; omega)]
  rfl
theorem own_m12 (y : Int32) (h : y.toInt < 65 ∨ 90 < y.toInt) : f1_12 y = f1_24 y := by
  have z1 : (65 : Int32).toInt = 65 := by decide
  have z2 : (90 : Int32).toInt = 90 := by decide
  unfold f1_12
  by_cases c : y < (65 : Int32)
  · rw [if_pos c]
  · rw [if_neg c, if_pos (by rw [Int32.lt_iff_toInt_lt] at c ⊢; omega)]
theorem own_h12 (y : Int32) (h : 65 ≤ y.toInt ∧ y.toInt ≤ 90) : f1_12 y = (1 : Int32) := by
  have z1 : (65 : Int32).toInt = 65 := by decide
  have z2 : (90 : Int32).toInt = 90 := by decide
  unfold f1_12
  rw [if_neg (by rw [Int32.lt_iff_toInt_lt]; omega), if_neg (by rw [Int32.lt_iff_toInt_lt]; omega)]
  rfl
theorem own_m24 (y : Int32) (h : y.toInt < 192 ∨ 214 < y.toInt) (q : ¬ y.toInt = 95) : f1_24 y = f1_44 y := by
  have z1 : (192 : Int32).toInt = 192 := by decide
  have z2 : (214 : Int32).toInt = 214 := by decide
  unfold f1_24
  rw [if_neg (fun w => q (by rw [w]; decide))]
  by_cases c : y < (192 : Int32)
  · rw [if_pos c]
  · rw [if_neg c, if_pos (by rw [Int32.lt_iff_toInt_lt] at c ⊢; omega)]
theorem own_h24 (y : Int32) (h : 192 ≤ y.toInt ∧ y.toInt ≤ 214) (q : ¬ y.toInt = 95) : f1_24 y = (1 : Int32) := by
  have z1 : (192 : Int32).toInt = 192 := by decide
  have z2 : (214 : Int32).toInt = 214 := by decide
  unfold f1_24
  rw [if_neg (fun w => q (by rw [w]; decide))]
  rw [if_neg (by rw [Int32.lt_iff_toInt_lt]; omega), if_neg (by rw [Int32.lt_iff_toInt_lt]; omega)]
  rfl
theorem own_m44 (y : Int32) (h : y.toInt < 216 ∨ 246 < y.toInt) : f1_44 y = f1_58 y := by
  have z1 : (216 : Int32).toInt = 216 := by decide
  have z2 : (246 : Int32).toInt = 246 := by decide
  unfold f1_44
  by_cases c : y < (216 : Int32)
  · rw [if_pos c]
  · rw [if_neg c, if_pos (by rw [Int32.lt_iff_toInt_lt] at c ⊢; omega)]
theorem own_h44 (y : Int32) (h : 216 ≤ y.toInt ∧ y.toInt ≤ 246) : f1_44 y = (1 : Int32) := by
  have z1 : (216 : Int32).toInt = 216 := by decide
  have z2 : (246 : Int32).toInt = 246 := by decide
  unfold f1_44
  rw [if_neg (by rw [Int32.lt_iff_toInt_lt]; omega), if_neg (by rw [Int32.lt_iff_toInt_lt]; omega)]
  rfl
theorem own_m58 (y : Int32) (h : y.toInt < 248 ∨ 767 < y.toInt) : f1_58 y = f1_72 y := by
  have z1 : (248 : Int32).toInt = 248 := by decide
  have z2 : (767 : Int32).toInt = 767 := by decide
  unfold f1_58
  by_cases c : y < (248 : Int32)
  · rw [if_pos c]
  · rw [if_neg c, if_pos (by rw [Int32.lt_iff_toInt_lt] at c ⊢; omega)]
theorem own_h58 (y : Int32) (h : 248 ≤ y.toInt ∧ y.toInt ≤ 767) : f1_58 y = (1 : Int32) := by
  have z1 : (248 : Int32).toInt = 248 := by decide
  have z2 : (767 : Int32).toInt = 767 := by decide
  unfold f1_58
  rw [if_neg (by rw [Int32.lt_iff_toInt_lt]; omega), if_neg (by rw [Int32.lt_iff_toInt_lt]; omega)]
  rfl
theorem own_m72 (y : Int32) (h : y.toInt < 880 ∨ 893 < y.toInt) : f1_72 y = f1_86 y := by
  have z1 : (880 : Int32).toInt = 880 := by decide
  have z2 : (893 : Int32).toInt = 893 := by decide
  unfold f1_72
  by_cases c : y < (880 : Int32)
  · rw [if_pos c]
  · rw [if_neg c, if_pos (by rw [Int32.lt_iff_toInt_lt] at c ⊢; omega)]
theorem own_h72 (y : Int32) (h : 880 ≤ y.toInt ∧ y.toInt ≤ 893) : f1_72 y = (1 : Int32) := by
  have z1 : (880 : Int32).toInt = 880 := by decide
  have z2 : (893 : Int32).toInt = 893 := by decide
  unfold f1_72
  rw [if_neg (by rw [Int32.lt_iff_toInt_lt]; omega), if_neg (by rw [Int32.lt_iff_toInt_lt]; omega)]
  rfl
theorem own_m86 (y : Int32) (h : y.toInt < 895 ∨ 8191 < y.toInt) : f1_86 y = f1_100 y := by
  have z1 : (895 : Int32).toInt = 895 := by decide
  have z2 : (8191 : Int32).toInt = 8191 := by decide
  unfold f1_86
  by_cases c : y < (895 : Int32)
  · rw [if_pos c]
  · rw [if_neg c, if_pos (by rw [Int32.lt_iff_toInt_lt] at c ⊢; omega)]
theorem own_h86 (y : Int32) (h : 895 ≤ y.toInt ∧ y.toInt ≤ 8191) : f1_86 y = (1 : Int32) := by
  have z1 : (895 : Int32).toInt = 895 := by decide
  have z2 : (8191 : Int32).toInt = 8191 := by decide
  unfold f1_86
  rw [if_neg (by rw [Int32.lt_iff_toInt_lt]; omega), if_neg (by rw [Int32.lt_iff_toInt_lt]; omega)]
  rfl
theorem own_m100 (y : Int32) (h : y.toInt < 8204 ∨ 8205 < y.toInt) : f1_100 y = f1_114 y := by
  have z1 : (8204 : Int32).toInt = 8204 := by decide
  have z2 : (8205 : Int32).toInt = 8205 := by decide
  unfold f1_100
  by_cases c : y < (8204 : Int32)
  · rw [if_pos c]
  · rw [if_neg c, if_pos (by rw [Int32.lt_iff_toInt_lt] at c ⊢; omega)]
theorem own_h100 (y : Int32) (h : 8204 ≤ y.toInt ∧ y.toInt ≤ 8205) : f1_100 y = (1 : Int32) := by
  have z1 : (8204 : Int32).toInt = 8204 := by decide
  have z2 : (8205 : Int32).toInt = 8205 := by decide
  unfold f1_100
  rw [if_neg (by rw [Int32.lt_iff_toInt_lt]; omega), if_neg (by rw [Int32.lt_iff_toInt_lt]; omega)]
  rfl
theorem own_m114 (y : Int32) (h : y.toInt < 8304 ∨ 8591 < y.toInt) : f1_114 y = f1_128 y := by
  have z1 : (8304 : Int32).toInt = 8304 := by decide
  have z2 : (8591 : Int32).toInt = 8591 := by decide
  unfold f1_114
  by_cases c : y < (8304 : Int32)
  · rw [if_pos c]
  · rw [if_neg c, if_pos (by rw [Int32.lt_iff_toInt_lt] at c ⊢; omega)]
theorem own_h114 (y : Int32) (h : 8304 ≤ y.toInt ∧ y.toInt ≤ 8591) : f1_114 y = (1 : Int32) := by
  have z1 : (8304 : Int32).toInt = 8304 := by decide
  have z2 : (8591 : Int32).toInt = 8591 := by decide
  unfold f1_114
  rw [if_neg (by rw [Int32.lt_iff_toInt_lt]; omega), if_neg (by rw [Int32.lt_iff_toInt_lt]; omega)]
  rfl
theorem own_m128 (y : Int32) (h : y.toInt < 11264 ∨ 12271 < y.toInt) : f1_128 y = f1_142 y := by
  have z1 : (11264 : Int32).toInt = 11264 := by decide
  have z2 : (12271 : Int32).toInt = 12271 := by decide
  unfold f1_128
  by_cases c : y < (11264 : Int32)
  · rw [if_pos c]
  · rw [if_neg c, if_pos (by rw [Int32.lt_iff_toInt_lt] at c ⊢; omega)]
theorem own_h128 (y : Int32) (h : 11264 ≤ y.toInt ∧ y.toInt ≤ 12271) : f1_128 y = (1 : Int32) := by
  have z1 : (11264 : Int32).toInt = 11264 := by decide
  have z2 : (12271 : Int32).toInt = 12271 := by decide
  unfold f1_128
  rw [if_neg (by rw [Int32.lt_iff_toInt_lt]; omega), if_neg (by rw [Int32.lt_iff_toInt_lt]; omega)]
  rfl
theorem own_m142 (y : Int32) (h : y.toInt < 12289 ∨ 55295 < y.toInt) : f1_142 y = f1_155 y := by
  have z1 : (12289 : Int32).toInt = 12289 := by decide
  have z2 : (55295 : Int32).toInt = 55295 := by decide
  unfold f1_142
  by_cases c : y < (12289 : Int32)
  · rw [if_pos c]
  · rw [if_neg c, if_pos (by rw [Int32.lt_iff_toInt_lt] at c ⊢; omega)]
theorem own_h142 (y : Int32) (h : 12289 ≤ y.toInt ∧ y.toInt ≤ 55295) : f1_142 y = (1 : Int32) := by
  have z1 : (12289 : Int32).toInt = 12289 := by decide
  have z2 : (55295 : Int32).toInt = 55295 := by decide
  unfold f1_142
  rw [if_neg (by rw [Int32.lt_iff_toInt_lt]; omega), if_neg (by rw [Int32.lt_iff_toInt_lt]; omega)]
  rfl
theorem own_m155 (y : Int32) (h : y.toInt < 63744 ∨ 64975 < y.toInt) : f1_155 y = f1_167 y := by
  have z1 : (63744 : Int32).toInt = 63744 := by decide
  have z2 : (64975 : Int32).toInt = 64975 := by decide
  unfold f1_155
  by_cases c : y < (63744 : Int32)
  · rw [if_pos c]
  · rw [if_neg c, if_pos (by rw [Int32.lt_iff_toInt_lt] at c ⊢; omega)]
theorem own_h155 (y : Int32) (h : 63744 ≤ y.toInt ∧ y.toInt ≤ 64975) : f1_155 y = (1 : Int32) := by
  have z1 : (63744 : Int32).toInt = 63744 := by decide
  have z2 : (64975 : Int32).toInt = 64975 := by decide
  unfold f1_155
  rw [if_neg (by rw [Int32.lt_iff_toInt_lt]; omega), if_neg (by rw [Int32.lt_iff_toInt_lt]; omega)]
  rfl
theorem own_m167 (y : Int32) (h : y.toInt < 65008 ∨ 65533 < y.toInt) : f1_167 y = f1_179 y := by
  have z1 : (65008 : Int32).toInt = 65008 := by decide
  have z2 : (65533 : Int32).toInt = 65533 := by decide
  unfold f1_167
  by_cases c : y < (65008 : Int32)
  · rw [if_pos c]
  · rw [if_neg c, if_pos (by rw [Int32.lt_iff_toInt_lt] at c ⊢; omega)]
theorem own_h167 (y : Int32) (h : 65008 ≤ y.toInt ∧ y.toInt ≤ 65533) : f1_167 y = (1 : Int32) := by
  have z1 : (65008 : Int32).toInt = 65008 := by decide
  have z2 : (65533 : Int32).toInt = 65533 := by decide
  unfold f1_167
  rw [if_neg (by rw [Int32.lt_iff_toInt_lt]; omega), if_neg (by rw [Int32.lt_iff_toInt_lt]; omega)]
  rfl
theorem own_m179 (y : Int32) (h : y.toInt < 65536 ∨ 983039 < y.toInt) : f1_179 y = f1_195 y := by
  have z1 : (65536 : Int32).toInt = 65536 := by decide
  have z2 : (983039 : Int32).toInt = 983039 := by decide
  unfold f1_179
  by_cases c : y < (65536 : Int32)
  · rw [if_pos c]
  · rw [if_neg c, if_pos (by rw [Int32.lt_iff_toInt_lt] at c ⊢; omega)]
theorem own_h179 (y : Int32) (h : 65536 ≤ y.toInt ∧ y.toInt ≤ 983039) : f1_179 y = (1 : Int32) := by
  have z1 : (65536 : Int32).toInt = 65536 := by decide
  have z2 : (983039 : Int32).toInt = 983039 := by decide
  unfold f1_179
  rw [if_neg (by rw [Int32.lt_iff_toInt_lt]; omega), if_neg (by rw [Int32.lt_iff_toInt_lt]; omega)]
  rfl
theorem own_h95 (y : Int32) (h : y.toInt = 95) : f1_24 y = (1 : Int32) := by
  unfold f1_24
  rw [if_pos (Int32.toInt_inj.mp (h.trans (by decide)))]
  rfl
theorem own_seg0 (y : Int32) (h : -2147483648 ≤ y.toInt ∧ y.toInt < 65) : f1_0 y = (0 : Int32) := by
  rw [own_m0 y (by omega), own_m12 y (by omega), own_m24 y (by omega) (by omega), own_m44 y (by omega), own_m58 y (by omega), own_m72 y (by omega), own_m86 y (by omega), own_m100 y (by omega), own_m114 y (by omega), own_m128 y (by omega), own_m142 y (by omega), own_m155 y (by omega), own_m167 y (by omega), own_m179 y (by omega)]
  rfl
theorem own_seg1 (y : Int32) (h : 65 ≤ y.toInt ∧ y.toInt < 91) : f1_0 y = (1 : Int32) := by
  rw [own_m0 y (by omega), own_h12 y (by omega)]
theorem own_seg2 (y : Int32) (h : 91 ≤ y.toInt ∧ y.toInt < 95) : f1_0 y = (0 : Int32) := by
  rw [own_m0 y (by omega), own_m12 y (by omega), own_m24 y (by omega) (by omega), own_m44 y (by omega), own_m58 y (by omega), own_m72 y (by omega), own_m86 y (by omega), own_m100 y (by omega), own_m114 y (by omega), own_m128 y (by omega), own_m142 y (by omega), own_m155 y (by omega), own_m167 y (by omega), own_m179 y (by omega)]
  rfl
theorem own_seg3 (y : Int32) (h : 95 ≤ y.toInt ∧ y.toInt < 96) : f1_0 y = (1 : Int32) := by
  rw [own_m0 y (by omega), own_m12 y (by omega), own_h95 y (by omega)]
theorem own_seg4 (y : Int32) (h : 96 ≤ y.toInt ∧ y.toInt < 97) : f1_0 y = (0 : Int32) := by
  rw [own_m0 y (by omega), own_m12 y (by omega), own_m24 y (by omega) (by omega), own_m44 y (by omega), own_m58 y (by omega), own_m72 y (by omega), own_m86 y (by omega), own_m100 y (by omega), own_m114 y (by omega), own_m128 y (by omega), own_m142 y (by omega), own_m155 y (by omega), own_m167 y (by omega), own_m179 y (by omega)]
  rfl
theorem own_seg5 (y : Int32) (h : 97 ≤ y.toInt ∧ y.toInt < 123) : f1_0 y = (1 : Int32) := by
  rw [own_h0 y (by omega)]
theorem own_seg6 (y : Int32) (h : 123 ≤ y.toInt ∧ y.toInt < 192) : f1_0 y = (0 : Int32) := by
  rw [own_m0 y (by omega), own_m12 y (by omega), own_m24 y (by omega) (by omega), own_m44 y (by omega), own_m58 y (by omega), own_m72 y (by omega), own_m86 y (by omega), own_m100 y (by omega), own_m114 y (by omega), own_m128 y (by omega), own_m142 y (by omega), own_m155 y (by omega), own_m167 y (by omega), own_m179 y (by omega)]
  rfl
theorem own_seg7 (y : Int32) (h : 192 ≤ y.toInt ∧ y.toInt < 215) : f1_0 y = (1 : Int32) := by
  rw [own_m0 y (by omega), own_m12 y (by omega), own_h24 y (by omega) (by omega)]
theorem own_seg8 (y : Int32) (h : 215 ≤ y.toInt ∧ y.toInt < 216) : f1_0 y = (0 : Int32) := by
  rw [own_m0 y (by omega), own_m12 y (by omega), own_m24 y (by omega) (by omega), own_m44 y (by omega), own_m58 y (by omega), own_m72 y (by omega), own_m86 y (by omega), own_m100 y (by omega), own_m114 y (by omega), own_m128 y (by omega), own_m142 y (by omega), own_m155 y (by omega), own_m167 y (by omega), own_m179 y (by omega)]
  rfl
theorem own_seg9 (y : Int32) (h : 216 ≤ y.toInt ∧ y.toInt < 247) : f1_0 y = (1 : Int32) := by
  rw [own_m0 y (by omega), own_m12 y (by omega), own_m24 y (by omega) (by omega), own_h44 y (by omega)]
theorem own_seg10 (y : Int32) (h : 247 ≤ y.toInt ∧ y.toInt < 248) : f1_0 y = (0 : Int32) := by
  rw [own_m0 y (by omega), own_m12 y (by omega), own_m24 y (by omega) (by omega), own_m44 y (by omega), own_m58 y (by omega), own_m72 y (by omega), own_m86 y (by omega), own_m100 y (by omega), own_m114 y (by omega), own_m128 y (by omega), own_m142 y (by omega), own_m155 y (by omega), own_m167 y (by omega), own_m179 y (by omega)]
  rfl
theorem own_seg11 (y : Int32) (h : 248 ≤ y.toInt ∧ y.toInt < 768) : f1_0 y = (1 : Int32) := by
  rw [own_m0 y (by omega), own_m12 y (by omega), own_m24 y (by omega) (by omega), own_m44 y (by omega), own_h58 y (by omega)]
theorem own_seg12 (y : Int32) (h : 768 ≤ y.toInt ∧ y.toInt < 880) : f1_0 y = (0 : Int32) := by
  rw [own_m0 y (by omega), own_m12 y (by omega), own_m24 y (by omega) (by omega), own_m44 y (by omega), own_m58 y (by omega), own_m72 y (by omega), own_m86 y (by omega), own_m100 y (by omega), own_m114 y (by omega), own_m128 y (by omega), own_m142 y (by omega), own_m155 y (by omega), own_m167 y (by omega), own_m179 y (by omega)]
  rfl
theorem own_seg13 (y : Int32) (h : 880 ≤ y.toInt ∧ y.toInt < 894) : f1_0 y = (1 : Int32) := by
  rw [own_m0 y (by omega), own_m12 y (by omega), own_m24 y (by omega) (by omega), own_m44 y (by omega), own_m58 y (by omega), own_h72 y (by omega)]
theorem own_seg14 (y : Int32) (h : 894 ≤ y.toInt ∧ y.toInt < 895) : f1_0 y = (0 : Int32) := by
  rw [own_m0 y (by omega), own_m12 y (by omega), own_m24 y (by omega) (by omega), own_m44 y (by omega), own_m58 y (by omega), own_m72 y (by omega), own_m86 y (by omega), own_m100 y (by omega), own_m114 y (by omega), own_m128 y (by omega), own_m142 y (by omega), own_m155 y (by omega), own_m167 y (by omega), own_m179 y (by omega)]
  rfl
theorem own_seg15 (y : Int32) (h : 895 ≤ y.toInt ∧ y.toInt < 8192) : f1_0 y = (1 : Int32) := by
  rw [own_m0 y (by omega), own_m12 y (by omega), own_m24 y (by omega) (by omega), own_m44 y (by omega), own_m58 y (by omega), own_m72 y (by omega), own_h86 y (by omega)]
theorem own_seg16 (y : Int32) (h : 8192 ≤ y.toInt ∧ y.toInt < 8204) : f1_0 y = (0 : Int32) := by
  rw [own_m0 y (by omega), own_m12 y (by omega), own_m24 y (by omega) (by omega), own_m44 y (by omega), own_m58 y (by omega), own_m72 y (by omega), own_m86 y (by omega), own_m100 y (by omega), own_m114 y (by omega), own_m128 y (by omega), own_m142 y (by omega), own_m155 y (by omega), own_m167 y (by omega), own_m179 y (by omega)]
  rfl
theorem own_seg17 (y : Int32) (h : 8204 ≤ y.toInt ∧ y.toInt < 8206) : f1_0 y = (1 : Int32) := by
  rw [own_m0 y (by omega), own_m12 y (by omega), own_m24 y (by omega) (by omega), own_m44 y (by omega), own_m58 y (by omega), own_m72 y (by omega), own_m86 y (by omega), own_h100 y (by omega)]
theorem own_seg18 (y : Int32) (h : 8206 ≤ y.toInt ∧ y.toInt < 8304) : f1_0 y = (0 : Int32) := by
  rw [own_m0 y (by omega), own_m12 y (by omega), own_m24 y (by omega) (by omega), own_m44 y (by omega), own_m58 y (by omega), own_m72 y (by omega), own_m86 y (by omega), own_m100 y (by omega), own_m114 y (by omega), own_m128 y (by omega), own_m142 y (by omega), own_m155 y (by omega), own_m167 y (by omega), own_m179 y (by omega)]
  rfl
theorem own_seg19 (y : Int32) (h : 8304 ≤ y.toInt ∧ y.toInt < 8592) : f1_0 y = (1 : Int32) := by
  rw [own_m0 y (by omega), own_m12 y (by omega), own_m24 y (by omega) (by omega), own_m44 y (by omega), own_m58 y (by omega), own_m72 y (by omega), own_m86 y (by omega), own_m100 y (by omega), own_h114 y (by omega)]
theorem own_seg20 (y : Int32) (h : 8592 ≤ y.toInt ∧ y.toInt < 11264) : f1_0 y = (0 : Int32) := by
  rw [own_m0 y (by omega), own_m12 y (by omega), own_m24 y (by omega) (by omega), own_m44 y (by omega), own_m58 y (by omega), own_m72 y (by omega), own_m86 y (by omega), own_m100 y (by omega), own_m114 y (by omega), own_m128 y (by omega), own_m142 y (by omega), own_m155 y (by omega), own_m167 y (by omega), own_m179 y (by omega)]
  rfl
theorem own_seg21 (y : Int32) (h : 11264 ≤ y.toInt ∧ y.toInt < 12272) : f1_0 y = (1 : Int32) := by
  rw [own_m0 y (by omega), own_m12 y (by omega), own_m24 y (by omega) (by omega), own_m44 y (by omega), own_m58 y (by omega), own_m72 y (by omega), own_m86 y (by omega), own_m100 y (by omega), own_m114 y (by omega), own_h128 y (by omega)]
theorem own_seg22 (y : Int32) (h : 12272 ≤ y.toInt ∧ y.toInt < 12289) : f1_0 y = (0 : Int32) := by
  rw [own_m0 y (by omega), own_m12 y (by omega), own_m24 y (by omega) (by omega), own_m44 y (by omega), own_m58 y (by omega), own_m72 y (by omega), own_m86 y (by omega), own_m100 y (by omega), own_m114 y (by omega), own_m128 y (by omega), own_m142 y (by omega), own_m155 y (by omega), own_m167 y (by omega), own_m179 y (by omega)]
  rfl
theorem own_seg23 (y : Int32) (h : 12289 ≤ y.toInt ∧ y.toInt < 55296) : f1_0 y = (1 : Int32) := by
  rw [own_m0 y (by omega), own_m12 y (by omega), own_m24 y (by omega) (by omega), own_m44 y (by omega), own_m58 y (by omega), own_m72 y (by omega), own_m86 y (by omega), own_m100 y (by omega), own_m114 y (by omega), own_m128 y (by omega), own_h142 y (by omega)]
theorem own_seg24 (y : Int32) (h : 55296 ≤ y.toInt ∧ y.toInt < 63744) : f1_0 y = (0 : Int32) := by
  rw [own_m0 y (by omega), own_m12 y (by omega), own_m24 y (by omega) (by omega), own_m44 y (by omega), own_m58 y (by omega), own_m72 y (by omega), own_m86 y (by omega), own_m100 y (by omega), own_m114 y (by omega), own_m128 y (by omega), own_m142 y (by omega), own_m155 y (by omega), own_m167 y (by omega), own_m179 y (by omega)]
  rfl
theorem own_seg25 (y : Int32) (h : 63744 ≤ y.toInt ∧ y.toInt < 64976) : f1_0 y = (1 : Int32) := by
  rw [own_m0 y (by omega), own_m12 y (by omega), own_m24 y (by omega) (by omega), own_m44 y (by omega), own_m58 y (by omega), own_m72 y (by omega), own_m86 y (by omega), own_m100 y (by omega), own_m114 y (by omega), own_m128 y (by omega), own_m142 y (by omega), own_h155 y (by omega)]
theorem own_seg26 (y : Int32) (h : 64976 ≤ y.toInt ∧ y.toInt < 65008) : f1_0 y = (0 : Int32) := by
  rw [own_m0 y (by omega), own_m12 y (by omega), own_m24 y (by omega) (by omega), own_m44 y (by omega), own_m58 y (by omega), own_m72 y (by omega), own_m86 y (by omega), own_m100 y (by omega), own_m114 y (by omega), own_m128 y (by omega), own_m142 y (by omega), own_m155 y (by omega), own_m167 y (by omega), own_m179 y (by omega)]
  rfl
theorem own_seg27 (y : Int32) (h : 65008 ≤ y.toInt ∧ y.toInt < 65534) : f1_0 y = (1 : Int32) := by
  rw [own_m0 y (by omega), own_m12 y (by omega), own_m24 y (by omega) (by omega), own_m44 y (by omega), own_m58 y (by omega), own_m72 y (by omega), own_m86 y (by omega), own_m100 y (by omega), own_m114 y (by omega), own_m128 y (by omega), own_m142 y (by omega), own_m155 y (by omega), own_h167 y (by omega)]
theorem own_seg28 (y : Int32) (h : 65534 ≤ y.toInt ∧ y.toInt < 65536) : f1_0 y = (0 : Int32) := by
  rw [own_m0 y (by omega), own_m12 y (by omega), own_m24 y (by omega) (by omega), own_m44 y (by omega), own_m58 y (by omega), own_m72 y (by omega), own_m86 y (by omega), own_m100 y (by omega), own_m114 y (by omega), own_m128 y (by omega), own_m142 y (by omega), own_m155 y (by omega), own_m167 y (by omega), own_m179 y (by omega)]
  rfl
theorem own_seg29 (y : Int32) (h : 65536 ≤ y.toInt ∧ y.toInt < 983040) : f1_0 y = (1 : Int32) := by
  rw [own_m0 y (by omega), own_m12 y (by omega), own_m24 y (by omega) (by omega), own_m44 y (by omega), own_m58 y (by omega), own_m72 y (by omega), own_m86 y (by omega), own_m100 y (by omega), own_m114 y (by omega), own_m128 y (by omega), own_m142 y (by omega), own_m155 y (by omega), own_m167 y (by omega), own_h179 y (by omega)]
theorem own_seg30 (y : Int32) (h : 983040 ≤ y.toInt ∧ y.toInt < 2147483648) : f1_0 y = (0 : Int32) := by
  rw [own_m0 y (by omega), own_m12 y (by omega), own_m24 y (by omega) (by omega), own_m44 y (by omega), own_m58 y (by omega), own_m72 y (by omega), own_m86 y (by omega), own_m100 y (by omega), own_m114 y (by omega), own_m128 y (by omega), own_m142 y (by omega), own_m155 y (by omega), own_m167 y (by omega), own_m179 y (by omega)]
  rfl
theorem own_key (i : Nat) (hl : i < 31) (x : Int64) (h1 : (own_tab i).toInt ≤ x.toInt) (h2 : x.toInt < (own_tab (i + 1)).toInt) : f1_0 x.toInt32 = if i % 2 = 1 then (1 : Int32) else (0 : Int32) := by
  have m := own_mono ⟨i, hl⟩
  simp only at m
  have a := c_l2i x
  have r := rng32 x.toInt32
  by_cases d0 : i = 0
  · subst d0
    rw [show (own_tab 0).toInt = -2147483648 by decide] at h1
    rw [show (own_tab (0 + 1)).toInt = 65 by decide] at h2
    exact (own_seg0 x.toInt32 (by omega)).trans (by decide)
  by_cases d1 : i = 1
  · subst d1
    rw [show (own_tab 1).toInt = 65 by decide] at h1
    rw [show (own_tab (1 + 1)).toInt = 91 by decide] at h2
    exact (own_seg1 x.toInt32 (by omega)).trans (by decide)
  by_cases d2 : i = 2
  · subst d2
    rw [show (own_tab 2).toInt = 91 by decide] at h1
    rw [show (own_tab (2 + 1)).toInt = 95 by decide] at h2
    exact (own_seg2 x.toInt32 (by omega)).trans (by decide)
  by_cases d3 : i = 3
  · subst d3
    rw [show (own_tab 3).toInt = 95 by decide] at h1
    rw [show (own_tab (3 + 1)).toInt = 96 by decide] at h2
    exact (own_seg3 x.toInt32 (by omega)).trans (by decide)
  by_cases d4 : i = 4
  · subst d4
    rw [show (own_tab 4).toInt = 96 by decide] at h1
    rw [show (own_tab (4 + 1)).toInt = 97 by decide] at h2
    exact (own_seg4 x.toInt32 (by omega)).trans (by decide)
  by_cases d5 : i = 5
  · subst d5
    rw [show (own_tab 5).toInt = 97 by decide] at h1
    rw [show (own_tab (5 + 1)).toInt = 123 by decide] at h2
    exact (own_seg5 x.toInt32 (by omega)).trans (by decide)
  by_cases d6 : i = 6
  · subst d6
    rw [show (own_tab 6).toInt = 123 by decide] at h1
    rw [show (own_tab (6 + 1)).toInt = 192 by decide] at h2
    exact (own_seg6 x.toInt32 (by omega)).trans (by decide)
  by_cases d7 : i = 7
  · subst d7
    rw [show (own_tab 7).toInt = 192 by decide] at h1
    rw [show (own_tab (7 + 1)).toInt = 215 by decide] at h2
    exact (own_seg7 x.toInt32 (by omega)).trans (by decide)
  by_cases d8 : i = 8
  · subst d8
    rw [show (own_tab 8).toInt = 215 by decide] at h1
    rw [show (own_tab (8 + 1)).toInt = 216 by decide] at h2
    exact (own_seg8 x.toInt32 (by omega)).trans (by decide)
  by_cases d9 : i = 9
  · subst d9
    rw [show (own_tab 9).toInt = 216 by decide] at h1
    rw [show (own_tab (9 + 1)).toInt = 247 by decide] at h2
    exact (own_seg9 x.toInt32 (by omega)).trans (by decide)
  by_cases d10 : i = 10
  · subst d10
    rw [show (own_tab 10).toInt = 247 by decide] at h1
    rw [show (own_tab (10 + 1)).toInt = 248 by decide] at h2
    exact (own_seg10 x.toInt32 (by omega)).trans (by decide)
  by_cases d11 : i = 11
  · subst d11
    rw [show (own_tab 11).toInt = 248 by decide] at h1
    rw [show (own_tab (11 + 1)).toInt = 768 by decide] at h2
    exact (own_seg11 x.toInt32 (by omega)).trans (by decide)
  by_cases d12 : i = 12
  · subst d12
    rw [show (own_tab 12).toInt = 768 by decide] at h1
    rw [show (own_tab (12 + 1)).toInt = 880 by decide] at h2
    exact (own_seg12 x.toInt32 (by omega)).trans (by decide)
  by_cases d13 : i = 13
  · subst d13
    rw [show (own_tab 13).toInt = 880 by decide] at h1
    rw [show (own_tab (13 + 1)).toInt = 894 by decide] at h2
    exact (own_seg13 x.toInt32 (by omega)).trans (by decide)
  by_cases d14 : i = 14
  · subst d14
    rw [show (own_tab 14).toInt = 894 by decide] at h1
    rw [show (own_tab (14 + 1)).toInt = 895 by decide] at h2
    exact (own_seg14 x.toInt32 (by omega)).trans (by decide)
  by_cases d15 : i = 15
  · subst d15
    rw [show (own_tab 15).toInt = 895 by decide] at h1
    rw [show (own_tab (15 + 1)).toInt = 8192 by decide] at h2
    exact (own_seg15 x.toInt32 (by omega)).trans (by decide)
  by_cases d16 : i = 16
  · subst d16
    rw [show (own_tab 16).toInt = 8192 by decide] at h1
    rw [show (own_tab (16 + 1)).toInt = 8204 by decide] at h2
    exact (own_seg16 x.toInt32 (by omega)).trans (by decide)
  by_cases d17 : i = 17
  · subst d17
    rw [show (own_tab 17).toInt = 8204 by decide] at h1
    rw [show (own_tab (17 + 1)).toInt = 8206 by decide] at h2
    exact (own_seg17 x.toInt32 (by omega)).trans (by decide)
  by_cases d18 : i = 18
  · subst d18
    rw [show (own_tab 18).toInt = 8206 by decide] at h1
    rw [show (own_tab (18 + 1)).toInt = 8304 by decide] at h2
    exact (own_seg18 x.toInt32 (by omega)).trans (by decide)
  by_cases d19 : i = 19
  · subst d19
    rw [show (own_tab 19).toInt = 8304 by decide] at h1
    rw [show (own_tab (19 + 1)).toInt = 8592 by decide] at h2
    exact (own_seg19 x.toInt32 (by omega)).trans (by decide)
  by_cases d20 : i = 20
  · subst d20
    rw [show (own_tab 20).toInt = 8592 by decide] at h1
    rw [show (own_tab (20 + 1)).toInt = 11264 by decide] at h2
    exact (own_seg20 x.toInt32 (by omega)).trans (by decide)
  by_cases d21 : i = 21
  · subst d21
    rw [show (own_tab 21).toInt = 11264 by decide] at h1
    rw [show (own_tab (21 + 1)).toInt = 12272 by decide] at h2
    exact (own_seg21 x.toInt32 (by omega)).trans (by decide)
  by_cases d22 : i = 22
  · subst d22
    rw [show (own_tab 22).toInt = 12272 by decide] at h1
    rw [show (own_tab (22 + 1)).toInt = 12289 by decide] at h2
    exact (own_seg22 x.toInt32 (by omega)).trans (by decide)
  by_cases d23 : i = 23
  · subst d23
    rw [show (own_tab 23).toInt = 12289 by decide] at h1
    rw [show (own_tab (23 + 1)).toInt = 55296 by decide] at h2
    exact (own_seg23 x.toInt32 (by omega)).trans (by decide)
  by_cases d24 : i = 24
  · subst d24
    rw [show (own_tab 24).toInt = 55296 by decide] at h1
    rw [show (own_tab (24 + 1)).toInt = 63744 by decide] at h2
    exact (own_seg24 x.toInt32 (by omega)).trans (by decide)
  by_cases d25 : i = 25
  · subst d25
    rw [show (own_tab 25).toInt = 63744 by decide] at h1
    rw [show (own_tab (25 + 1)).toInt = 64976 by decide] at h2
    exact (own_seg25 x.toInt32 (by omega)).trans (by decide)
  by_cases d26 : i = 26
  · subst d26
    rw [show (own_tab 26).toInt = 64976 by decide] at h1
    rw [show (own_tab (26 + 1)).toInt = 65008 by decide] at h2
    exact (own_seg26 x.toInt32 (by omega)).trans (by decide)
  by_cases d27 : i = 27
  · subst d27
    rw [show (own_tab 27).toInt = 65008 by decide] at h1
    rw [show (own_tab (27 + 1)).toInt = 65534 by decide] at h2
    exact (own_seg27 x.toInt32 (by omega)).trans (by decide)
  by_cases d28 : i = 28
  · subst d28
    rw [show (own_tab 28).toInt = 65534 by decide] at h1
    rw [show (own_tab (28 + 1)).toInt = 65536 by decide] at h2
    exact (own_seg28 x.toInt32 (by omega)).trans (by decide)
  by_cases d29 : i = 29
  · subst d29
    rw [show (own_tab 29).toInt = 65536 by decide] at h1
    rw [show (own_tab (29 + 1)).toInt = 983040 by decide] at h2
    exact (own_seg29 x.toInt32 (by omega)).trans (by decide)
  by_cases d30 : i = 30
  · subst d30
    rw [show (own_tab 30).toInt = 983040 by decide] at h1
    rw [show (own_tab (30 + 1)).toInt = 2147483648 by decide] at h2
    exact (own_seg30 x.toInt32 (by omega)).trans (by decide)
  omega
section Law
variable {z : Int32} {i : Nat}
theorem own_d (hl : i < 31) : ((own_tab (i + 1)) - (own_tab i)).toInt = (own_tab (i + 1)).toInt - (own_tab i).toInt := by
  have m := own_mono ⟨i, hl⟩
  have a := c_lsub (own_tab (i + 1)) (own_tab i)
  have r := rng64 ((own_tab (i + 1)) - (own_tab i))
  simp only at m
  omega
theorem own_gap (hl : i < 31) : ((own_tab (i + 1)) - (own_tab i)) ≠ 0 := fun q => by
  have m := own_mono ⟨i, hl⟩
  have d := own_d hl
  rw [q] at d
  have o : (0 : Int64).toInt = 0 := by decide
  simp only at m
  omega
theorem own_par (hi : z.toInt = (i : Int)) (h : (z &&& (1 : Int32)) = (1 : Int32)) : i % 2 = 1 := by
  have m := c_mask z 1 1 (by decide) (by decide)
  rw [h] at m
  have o : (1 : Int32).toInt = 1 := by decide
  omega
theorem own_par' (hi : z.toInt = (i : Int)) (h : ¬ (z &&& (1 : Int32)) = (1 : Int32)) : ¬ i % 2 = 1 := fun q => h (by
  have m := c_mask z 1 1 (by decide) (by decide)
  have o : (1 : Int32).toInt = 1 := by decide
  apply Int32.toInt_inj.mp
  omega)
theorem own_hiI (hl : i < 31) : ((own_tab (i + 1)) - (1 : Int64)).toInt = (own_tab (i + 1)).toInt - 1 := by
  have m := own_mono ⟨i, hl⟩
  have a := c_lsub (own_tab (i + 1)) 1
  have r := rng64 ((own_tab (i + 1)) - (1 : Int64))
  have o : (1 : Int64).toInt = 1 := by decide
  simp only at m
  omega
theorem own_ptI (b : Int32) (hl : i < 31) : (own_tab i).toInt ≤ ((own_tab i) + (((b.toInt64) &&& (4294967295 : Int64)) % ((own_tab (i + 1)) - (own_tab i)))).toInt ∧ ((own_tab i) + (((b.toInt64) &&& (4294967295 : Int64)) % ((own_tab (i + 1)) - (own_tab i)))).toInt < (own_tab (i + 1)).toInt := by
  have m := own_mono ⟨i, hl⟩
  simp only at m
  have k := c_maskL b.toInt64 4294967295 32 (by decide) (by decide)
  have e := (c_lrem ((b.toInt64) &&& (4294967295 : Int64)) ((own_tab (i + 1)) - (own_tab i)) ((own_tab (i + 1)).toInt - (own_tab i).toInt) (own_d hl)).1 (by omega)
  rw [lrem_mod] at e
  have a1 := Int.emod_nonneg ((b.toInt64) &&& (4294967295 : Int64)).toInt (show (own_tab (i + 1)).toInt - (own_tab i).toInt ≠ 0 by omega)
  have a2 := Int.emod_lt_of_pos ((b.toInt64) &&& (4294967295 : Int64)).toInt (show 0 < (own_tab (i + 1)).toInt - (own_tab i).toInt by omega)
  have s := c_ladd (own_tab i) (((b.toInt64) &&& (4294967295 : Int64)) % ((own_tab (i + 1)) - (own_tab i)))
  have r := rng64 ((own_tab i) + (((b.toInt64) &&& (4294967295 : Int64)) % ((own_tab (i + 1)) - (own_tab i))))
  omega
theorem own_lo (hi : z.toInt = (i : Int)) (hl : i < 31) (h : (z &&& (1 : Int32)) = (1 : Int32)) : f1_0 ((own_tab i).toInt32) = (1 : Int32) := (own_key i hl _ (Int.le_refl _) (own_mono ⟨i, hl⟩).1).trans (if_pos (own_par hi h))
theorem own_lo' (hi : z.toInt = (i : Int)) (hl : i < 31) (h : ¬ (z &&& (1 : Int32)) = (1 : Int32)) : f1_0 ((own_tab i).toInt32) = (0 : Int32) := (own_key i hl _ (Int.le_refl _) (own_mono ⟨i, hl⟩).1).trans (if_neg (own_par' hi h))
theorem own_hiB (hl : i < 31) : (own_tab i).toInt ≤ ((own_tab (i + 1)) - (1 : Int64)).toInt ∧ ((own_tab (i + 1)) - (1 : Int64)).toInt < (own_tab (i + 1)).toInt := by
  have m := own_mono ⟨i, hl⟩
  simp only at m
  have e := own_hiI hl
  omega
theorem own_hi (hi : z.toInt = (i : Int)) (hl : i < 31) (h : (z &&& (1 : Int32)) = (1 : Int32)) : f1_0 (((own_tab (i + 1)) - (1 : Int64)).toInt32) = (1 : Int32) := (own_key i hl _ (own_hiB hl).1 (own_hiB hl).2).trans (if_pos (own_par hi h))
theorem own_hi' (hi : z.toInt = (i : Int)) (hl : i < 31) (h : ¬ (z &&& (1 : Int32)) = (1 : Int32)) : f1_0 (((own_tab (i + 1)) - (1 : Int64)).toInt32) = (0 : Int32) := (own_key i hl _ (own_hiB hl).1 (own_hiB hl).2).trans (if_neg (own_par' hi h))
theorem own_pt (b : Int32) (hi : z.toInt = (i : Int)) (hl : i < 31) (h : (z &&& (1 : Int32)) = (1 : Int32)) : f1_0 (((own_tab i) + (((b.toInt64) &&& (4294967295 : Int64)) % ((own_tab (i + 1)) - (own_tab i)))).toInt32) = (1 : Int32) := (own_key i hl _ (own_ptI b hl).1 (own_ptI b hl).2).trans (if_pos (own_par hi h))
theorem own_pt' (b : Int32) (hi : z.toInt = (i : Int)) (hl : i < 31) (h : ¬ (z &&& (1 : Int32)) = (1 : Int32)) : f1_0 (((own_tab i) + (((b.toInt64) &&& (4294967295 : Int64)) % ((own_tab (i + 1)) - (own_tab i)))).toInt32) = (0 : Int32) := (own_key i hl _ (own_ptI b hl).1 (own_ptI b hl).2).trans (if_neg (own_par' hi h))
end Law
theorem pn_0 : plainName "com/example/shuttlecourse/shuttlecourse/model/XmlCharsIsNameStartPinLaw" = true := by first | (simp [plainName, overriddenIn]; done) | decide +kernel
theorem ef_0 (m : MethodId) (p0 : Int32) (p1 : Int32) : entryFrame m #[(.int p0), (.int p1)] maxLocals = mkF m 0 #[.val (.int p0), .val (.int p1), .unset, .unset, .unset, .unset, .unset, .unset, .unset, .unset, .unset, .unset, .unset, .unset, .unset, .unset] [] := by first | (simp [entryFrame, mkF, argsToLocals, Value.category, maxLocals]; done) | rfl
theorem pd0_0 : parseMethodDescriptor "(I)Z" = some ⟨[.int], some .boolean⟩ := by decide +kernel
set_option maxRecDepth 65536 in
set_option maxHeartbeats 40000000 in
theorem rm0 (l : Launch) (Z : State) (a0 : Array Value) (hw : ∀ d ∈ tables_1, d.before a0 Z = true) (ws : List Jvm.Cond) (p0 : Int32) (p1 : Int32) (h0 : Heap) (n0 : Nat) (Z0 : n0 ≤ h0.size) :
    MetFree l x (head1 (Jvm.Cond.code x code maxLocals ret :: ws) room_1) (fun a U => a = #[(.int p0), (.int p1)] ∧ Z.Warmed39 U.vm ∧ U.heap = h0) (fun _ _ _ _ _ => True) (fun _ U o U' => ∃ v L, o = .returned v ∧ (fun v h L => v = some (.int 1) ∧ Fr n0 L) v U'.heap L ∧ FrameEnd U o U' L 16 128) := by
  refine MetFree.of_bodySF (plainFor_of_name pn_0) hisR ?_
  intro p e s m args below meth c s₁ Bd hml0 hP hK
  obtain ⟨rfl, hZ, hh⟩ := hP
  have hx := Bd.exec
  have hby := Bd.bytes
  have hret := Bd.returns
  have hlk := BodyLoose.notSynchronized Bd
  have hml : c.maxLocals = 16 := hml0
  have hown : s.vm.findClass "com/example/shuttlecourse/shuttlecourse/model/XmlCharsIsNameStartPinLaw" = some m.cls := findClass_of_methodNamed Bd.named
  have hnm := (name_of_methodNamed Bd.named Bd.method).1
  have X0 : Stand p l e room_1 s m #[(.int p0), (.int p1)] below meth c s₁ [] 0 0 := Stand.of_body Bd
  have e0 : s₁.heap = h0 := by rw [← hh, Bd.state]; rfl
  have N0 := Fr.nil n0
  show own_Ends p e below s 16 128 (fun v h L => v = some (.int 1) ∧ Fr n0 L) (s₁.setTop (entryFrame m #[(.int p0), (.int p1)] maxLocals))
  refine own_cast (ef_0 m p0 p1) ?_
  show own_Ends p e below s _ _ _ (s₁.setTop (mkF m 0 #[.val (.int p0), .val (.int p1), .unset, .unset, .unset, .unset, .unset, .unset, .unset, .unset, .unset, .unset, .unset, .unset, .unset, .unset] []))
  refine own_step (fun t k => XS.bipush X0.here hx rfl (hb hby at_0) k) ?_
  show own_Ends p e below s _ _ _ (s₁.setTop (mkF m 2 #[.val (.int p0), .val (.int p1), .unset, .unset, .unset, .unset, .unset, .unset, .unset, .unset, .unset, .unset, .unset, .unset, .unset, .unset] [(.int (32 : Int32))]))
  obtain ⟨T1, h1, X1, e1, E1, A1, st1⟩ := own_newJ X0 hx hZ (hw _ (List.mem_of_getElem? (i := 0) rfl)) e0 (g := (mkF m 2 #[.val (.int p0), .val (.int p1), .unset, .unset, .unset, .unset, .unset, .unset, .unset, .unset, .unset, .unset, .unset, .unset, .unset, .unset] [(.int (32 : Int32))])) rfl (hb hby at_2) rfl (N := 32) (by decide) (by decide) (by decide) (by decide)
  obtain ⟨b1, g1⟩ : ∃ z, z = h0.size := ⟨_, rfl⟩
  rw [← g1] at A1 st1
  have gn_b1 : n0 ≤ b1 := Nat.le_trans Z0 (Nat.le_of_eq g1.symm)
  have Z1 : n0 ≤ h1.size := Nat.le_trans Z0 E1.1
  refine own_step st1 ?_
  show own_Ends p e below s _ _ _ (T1.setTop (mkF m 4 #[.val (.int p0), .val (.int p1), .unset, .unset, .unset, .unset, .unset, .unset, .unset, .unset, .unset, .unset, .unset, .unset, .unset, .unset] [(.ref b1)]))
  refine own_step (fun t k => XS.dup X1.here hx rfl (hb hby at_4) rfl rfl k) ?_
  show own_Ends p e below s _ _ _ (T1.setTop (mkF m 5 #[.val (.int p0), .val (.int p1), .unset, .unset, .unset, .unset, .unset, .unset, .unset, .unset, .unset, .unset, .unset, .unset, .unset, .unset] [(.ref b1), (.ref b1)]))
  refine own_step (fun t k => XS.iconst X1.here hx rfl (hb hby at_5) k) ?_
  show own_Ends p e below s _ _ _ (T1.setTop (mkF m 6 #[.val (.int p0), .val (.int p1), .unset, .unset, .unset, .unset, .unset, .unset, .unset, .unset, .unset, .unset, .unset, .unset, .unset, .unset] [(.int (0 : Int32)), (.ref b1), (.ref b1)]))
  refine own_step (fun t k => X1.ldc2Long hx hown (mvT hZ (hw _ (List.mem_of_getElem? (i := 1) rfl))) (g := (mkF m 6 #[.val (.int p0), .val (.int p1), .unset, .unset, .unset, .unset, .unset, .unset, .unset, .unset, .unset, .unset, .unset, .unset, .unset, .unset] [(.int (0 : Int32)), (.ref b1), (.ref b1)])) rfl (hb hby at_6) t k) ?_
  show own_Ends p e below s _ _ _ (T1.setTop (mkF m 9 #[.val (.int p0), .val (.int p1), .unset, .unset, .unset, .unset, .unset, .unset, .unset, .unset, .unset, .unset, .unset, .unset, .unset, .unset] [(.long (-2147483648 : Int64)), (.int (0 : Int32)), (.ref b1), (.ref b1)]))
  obtain ⟨T2, h2, X2, e2, W2, A2, st2⟩ := own_stJ X1 hx hZ e1 A1 0 (by decide) (by decide) (g := (mkF m 9 #[.val (.int p0), .val (.int p1), .unset, .unset, .unset, .unset, .unset, .unset, .unset, .unset, .unset, .unset, .unset, .unset, .unset, .unset] [(.long (-2147483648 : Int64)), (.int (0 : Int32)), (.ref b1), (.ref b1)])) rfl rfl (hb hby at_9)
  refine own_step st2 ?_
  have N2 := Fr.snoc X2 N0 gn_b1
  have Z2 : n0 ≤ h2.size := by rw [W2.size]; exact Z1
  obtain ⟨LL3, XL3, NL3⟩ : ∃ LL, Stand p l e room_1 s m #[(.int p0), (.int p1)] below meth c T2 LL 1 32 ∧ Fr n0 LL := ⟨_, X2, N2⟩
  show own_Ends p e below s _ _ _ (T2.setTop (mkF m 10 #[.val (.int p0), .val (.int p1), .unset, .unset, .unset, .unset, .unset, .unset, .unset, .unset, .unset, .unset, .unset, .unset, .unset, .unset] [(.ref b1)]))
  refine own_step (fun t k => XS.dup XL3.here hx rfl (hb hby at_10) rfl rfl k) ?_
  show own_Ends p e below s _ _ _ (T2.setTop (mkF m 11 #[.val (.int p0), .val (.int p1), .unset, .unset, .unset, .unset, .unset, .unset, .unset, .unset, .unset, .unset, .unset, .unset, .unset, .unset] [(.ref b1), (.ref b1)]))
  refine own_step (fun t k => XS.iconst XL3.here hx rfl (hb hby at_11) k) ?_
  show own_Ends p e below s _ _ _ (T2.setTop (mkF m 12 #[.val (.int p0), .val (.int p1), .unset, .unset, .unset, .unset, .unset, .unset, .unset, .unset, .unset, .unset, .unset, .unset, .unset, .unset] [(.int (1 : Int32)), (.ref b1), (.ref b1)]))
  refine own_step (fun t k => XL3.ldc2Long hx hown (mvT hZ (hw _ (List.mem_of_getElem? (i := 2) rfl))) (g := (mkF m 12 #[.val (.int p0), .val (.int p1), .unset, .unset, .unset, .unset, .unset, .unset, .unset, .unset, .unset, .unset, .unset, .unset, .unset, .unset] [(.int (1 : Int32)), (.ref b1), (.ref b1)])) rfl (hb hby at_12) t k) ?_
  show own_Ends p e below s _ _ _ (T2.setTop (mkF m 15 #[.val (.int p0), .val (.int p1), .unset, .unset, .unset, .unset, .unset, .unset, .unset, .unset, .unset, .unset, .unset, .unset, .unset, .unset] [(.long (65 : Int64)), (.int (1 : Int32)), (.ref b1), (.ref b1)]))
  obtain ⟨T4, h4, X4, e4, W4, A4, st4⟩ := own_stJ XL3 hx hZ e2 A2 1 (by decide) (by decide) (g := (mkF m 15 #[.val (.int p0), .val (.int p1), .unset, .unset, .unset, .unset, .unset, .unset, .unset, .unset, .unset, .unset, .unset, .unset, .unset, .unset] [(.long (65 : Int64)), (.int (1 : Int32)), (.ref b1), (.ref b1)])) rfl rfl (hb hby at_15)
  refine own_step st4 ?_
  have N4 := Fr.snoc X4 NL3 gn_b1
  have Z4 : n0 ≤ h4.size := by rw [W4.size]; exact Z2
  obtain ⟨LL5, XL5, NL5⟩ : ∃ LL, Stand p l e room_1 s m #[(.int p0), (.int p1)] below meth c T4 LL 1 32 ∧ Fr n0 LL := ⟨_, X4, N4⟩
  show own_Ends p e below s _ _ _ (T4.setTop (mkF m 16 #[.val (.int p0), .val (.int p1), .unset, .unset, .unset, .unset, .unset, .unset, .unset, .unset, .unset, .unset, .unset, .unset, .unset, .unset] [(.ref b1)]))
  refine own_step (fun t k => XS.dup XL5.here hx rfl (hb hby at_16) rfl rfl k) ?_
  show own_Ends p e below s _ _ _ (T4.setTop (mkF m 17 #[.val (.int p0), .val (.int p1), .unset, .unset, .unset, .unset, .unset, .unset, .unset, .unset, .unset, .unset, .unset, .unset, .unset, .unset] [(.ref b1), (.ref b1)]))
  refine own_step (fun t k => XS.iconst XL5.here hx rfl (hb hby at_17) k) ?_
  show own_Ends p e below s _ _ _ (T4.setTop (mkF m 18 #[.val (.int p0), .val (.int p1), .unset, .unset, .unset, .unset, .unset, .unset, .unset, .unset, .unset, .unset, .unset, .unset, .unset, .unset] [(.int (2 : Int32)), (.ref b1), (.ref b1)]))
  refine own_step (fun t k => XL5.ldc2Long hx hown (mvT hZ (hw _ (List.mem_of_getElem? (i := 3) rfl))) (g := (mkF m 18 #[.val (.int p0), .val (.int p1), .unset, .unset, .unset, .unset, .unset, .unset, .unset, .unset, .unset, .unset, .unset, .unset, .unset, .unset] [(.int (2 : Int32)), (.ref b1), (.ref b1)])) rfl (hb hby at_18) t k) ?_
  show own_Ends p e below s _ _ _ (T4.setTop (mkF m 21 #[.val (.int p0), .val (.int p1), .unset, .unset, .unset, .unset, .unset, .unset, .unset, .unset, .unset, .unset, .unset, .unset, .unset, .unset] [(.long (91 : Int64)), (.int (2 : Int32)), (.ref b1), (.ref b1)]))
  obtain ⟨T6, h6, X6, e6, W6, A6, st6⟩ := own_stJ XL5 hx hZ e4 A4 2 (by decide) (by decide) (g := (mkF m 21 #[.val (.int p0), .val (.int p1), .unset, .unset, .unset, .unset, .unset, .unset, .unset, .unset, .unset, .unset, .unset, .unset, .unset, .unset] [(.long (91 : Int64)), (.int (2 : Int32)), (.ref b1), (.ref b1)])) rfl rfl (hb hby at_21)
  refine own_step st6 ?_
  have N6 := Fr.snoc X6 NL5 gn_b1
  have Z6 : n0 ≤ h6.size := by rw [W6.size]; exact Z4
  obtain ⟨LL7, XL7, NL7⟩ : ∃ LL, Stand p l e room_1 s m #[(.int p0), (.int p1)] below meth c T6 LL 1 32 ∧ Fr n0 LL := ⟨_, X6, N6⟩
  show own_Ends p e below s _ _ _ (T6.setTop (mkF m 22 #[.val (.int p0), .val (.int p1), .unset, .unset, .unset, .unset, .unset, .unset, .unset, .unset, .unset, .unset, .unset, .unset, .unset, .unset] [(.ref b1)]))
  refine own_step (fun t k => XS.dup XL7.here hx rfl (hb hby at_22) rfl rfl k) ?_
  show own_Ends p e below s _ _ _ (T6.setTop (mkF m 23 #[.val (.int p0), .val (.int p1), .unset, .unset, .unset, .unset, .unset, .unset, .unset, .unset, .unset, .unset, .unset, .unset, .unset, .unset] [(.ref b1), (.ref b1)]))
  refine own_step (fun t k => XS.iconst XL7.here hx rfl (hb hby at_23) k) ?_
  show own_Ends p e below s _ _ _ (T6.setTop (mkF m 24 #[.val (.int p0), .val (.int p1), .unset, .unset, .unset, .unset, .unset, .unset, .unset, .unset, .unset, .unset, .unset, .unset, .unset, .unset] [(.int (3 : Int32)), (.ref b1), (.ref b1)]))
  refine own_step (fun t k => XL7.ldc2Long hx hown (mvT hZ (hw _ (List.mem_of_getElem? (i := 4) rfl))) (g := (mkF m 24 #[.val (.int p0), .val (.int p1), .unset, .unset, .unset, .unset, .unset, .unset, .unset, .unset, .unset, .unset, .unset, .unset, .unset, .unset] [(.int (3 : Int32)), (.ref b1), (.ref b1)])) rfl (hb hby at_24) t k) ?_
  show own_Ends p e below s _ _ _ (T6.setTop (mkF m 27 #[.val (.int p0), .val (.int p1), .unset, .unset, .unset, .unset, .unset, .unset, .unset, .unset, .unset, .unset, .unset, .unset, .unset, .unset] [(.long (95 : Int64)), (.int (3 : Int32)), (.ref b1), (.ref b1)]))
  obtain ⟨T8, h8, X8, e8, W8, A8, st8⟩ := own_stJ XL7 hx hZ e6 A6 3 (by decide) (by decide) (g := (mkF m 27 #[.val (.int p0), .val (.int p1), .unset, .unset, .unset, .unset, .unset, .unset, .unset, .unset, .unset, .unset, .unset, .unset, .unset, .unset] [(.long (95 : Int64)), (.int (3 : Int32)), (.ref b1), (.ref b1)])) rfl rfl (hb hby at_27)
  refine own_step st8 ?_
  have N8 := Fr.snoc X8 NL7 gn_b1
  have Z8 : n0 ≤ h8.size := by rw [W8.size]; exact Z6
  obtain ⟨LL9, XL9, NL9⟩ : ∃ LL, Stand p l e room_1 s m #[(.int p0), (.int p1)] below meth c T8 LL 1 32 ∧ Fr n0 LL := ⟨_, X8, N8⟩
  show own_Ends p e below s _ _ _ (T8.setTop (mkF m 28 #[.val (.int p0), .val (.int p1), .unset, .unset, .unset, .unset, .unset, .unset, .unset, .unset, .unset, .unset, .unset, .unset, .unset, .unset] [(.ref b1)]))
  refine own_step (fun t k => XS.dup XL9.here hx rfl (hb hby at_28) rfl rfl k) ?_
  show own_Ends p e below s _ _ _ (T8.setTop (mkF m 29 #[.val (.int p0), .val (.int p1), .unset, .unset, .unset, .unset, .unset, .unset, .unset, .unset, .unset, .unset, .unset, .unset, .unset, .unset] [(.ref b1), (.ref b1)]))
  refine own_step (fun t k => XS.iconst XL9.here hx rfl (hb hby at_29) k) ?_
  show own_Ends p e below s _ _ _ (T8.setTop (mkF m 30 #[.val (.int p0), .val (.int p1), .unset, .unset, .unset, .unset, .unset, .unset, .unset, .unset, .unset, .unset, .unset, .unset, .unset, .unset] [(.int (4 : Int32)), (.ref b1), (.ref b1)]))
  refine own_step (fun t k => XL9.ldc2Long hx hown (mvT hZ (hw _ (List.mem_of_getElem? (i := 5) rfl))) (g := (mkF m 30 #[.val (.int p0), .val (.int p1), .unset, .unset, .unset, .unset, .unset, .unset, .unset, .unset, .unset, .unset, .unset, .unset, .unset, .unset] [(.int (4 : Int32)), (.ref b1), (.ref b1)])) rfl (hb hby at_30) t k) ?_
  show own_Ends p e below s _ _ _ (T8.setTop (mkF m 33 #[.val (.int p0), .val (.int p1), .unset, .unset, .unset, .unset, .unset, .unset, .unset, .unset, .unset, .unset, .unset, .unset, .unset, .unset] [(.long (96 : Int64)), (.int (4 : Int32)), (.ref b1), (.ref b1)]))
  obtain ⟨T10, h10, X10, e10, W10, A10, st10⟩ := own_stJ XL9 hx hZ e8 A8 4 (by decide) (by decide) (g := (mkF m 33 #[.val (.int p0), .val (.int p1), .unset, .unset, .unset, .unset, .unset, .unset, .unset, .unset, .unset, .unset, .unset, .unset, .unset, .unset] [(.long (96 : Int64)), (.int (4 : Int32)), (.ref b1), (.ref b1)])) rfl rfl (hb hby at_33)
  refine own_step st10 ?_
  have N10 := Fr.snoc X10 NL9 gn_b1
  have Z10 : n0 ≤ h10.size := by rw [W10.size]; exact Z8
  obtain ⟨LL11, XL11, NL11⟩ : ∃ LL, Stand p l e room_1 s m #[(.int p0), (.int p1)] below meth c T10 LL 1 32 ∧ Fr n0 LL := ⟨_, X10, N10⟩
  show own_Ends p e below s _ _ _ (T10.setTop (mkF m 34 #[.val (.int p0), .val (.int p1), .unset, .unset, .unset, .unset, .unset, .unset, .unset, .unset, .unset, .unset, .unset, .unset, .unset, .unset] [(.ref b1)]))
  refine own_step (fun t k => XS.dup XL11.here hx rfl (hb hby at_34) rfl rfl k) ?_
  show own_Ends p e below s _ _ _ (T10.setTop (mkF m 35 #[.val (.int p0), .val (.int p1), .unset, .unset, .unset, .unset, .unset, .unset, .unset, .unset, .unset, .unset, .unset, .unset, .unset, .unset] [(.ref b1), (.ref b1)]))
  refine own_step (fun t k => XS.iconst XL11.here hx rfl (hb hby at_35) k) ?_
  show own_Ends p e below s _ _ _ (T10.setTop (mkF m 36 #[.val (.int p0), .val (.int p1), .unset, .unset, .unset, .unset, .unset, .unset, .unset, .unset, .unset, .unset, .unset, .unset, .unset, .unset] [(.int (5 : Int32)), (.ref b1), (.ref b1)]))
  refine own_step (fun t k => XL11.ldc2Long hx hown (mvT hZ (hw _ (List.mem_of_getElem? (i := 6) rfl))) (g := (mkF m 36 #[.val (.int p0), .val (.int p1), .unset, .unset, .unset, .unset, .unset, .unset, .unset, .unset, .unset, .unset, .unset, .unset, .unset, .unset] [(.int (5 : Int32)), (.ref b1), (.ref b1)])) rfl (hb hby at_36) t k) ?_
  show own_Ends p e below s _ _ _ (T10.setTop (mkF m 39 #[.val (.int p0), .val (.int p1), .unset, .unset, .unset, .unset, .unset, .unset, .unset, .unset, .unset, .unset, .unset, .unset, .unset, .unset] [(.long (97 : Int64)), (.int (5 : Int32)), (.ref b1), (.ref b1)]))
  obtain ⟨T12, h12, X12, e12, W12, A12, st12⟩ := own_stJ XL11 hx hZ e10 A10 5 (by decide) (by decide) (g := (mkF m 39 #[.val (.int p0), .val (.int p1), .unset, .unset, .unset, .unset, .unset, .unset, .unset, .unset, .unset, .unset, .unset, .unset, .unset, .unset] [(.long (97 : Int64)), (.int (5 : Int32)), (.ref b1), (.ref b1)])) rfl rfl (hb hby at_39)
  refine own_step st12 ?_
  have N12 := Fr.snoc X12 NL11 gn_b1
  have Z12 : n0 ≤ h12.size := by rw [W12.size]; exact Z10
  obtain ⟨LL13, XL13, NL13⟩ : ∃ LL, Stand p l e room_1 s m #[(.int p0), (.int p1)] below meth c T12 LL 1 32 ∧ Fr n0 LL := ⟨_, X12, N12⟩
  show own_Ends p e below s _ _ _ (T12.setTop (mkF m 40 #[.val (.int p0), .val (.int p1), .unset, .unset, .unset, .unset, .unset, .unset, .unset, .unset, .unset, .unset, .unset, .unset, .unset, .unset] [(.ref b1)]))
  refine own_step (fun t k => XS.dup XL13.here hx rfl (hb hby at_40) rfl rfl k) ?_
  show own_Ends p e below s _ _ _ (T12.setTop (mkF m 41 #[.val (.int p0), .val (.int p1), .unset, .unset, .unset, .unset, .unset, .unset, .unset, .unset, .unset, .unset, .unset, .unset, .unset, .unset] [(.ref b1), (.ref b1)]))
  refine own_step (fun t k => XS.bipush XL13.here hx rfl (hb hby at_41) k) ?_
  show own_Ends p e below s _ _ _ (T12.setTop (mkF m 43 #[.val (.int p0), .val (.int p1), .unset, .unset, .unset, .unset, .unset, .unset, .unset, .unset, .unset, .unset, .unset, .unset, .unset, .unset] [(.int (6 : Int32)), (.ref b1), (.ref b1)]))
  refine own_step (fun t k => XL13.ldc2Long hx hown (mvT hZ (hw _ (List.mem_of_getElem? (i := 7) rfl))) (g := (mkF m 43 #[.val (.int p0), .val (.int p1), .unset, .unset, .unset, .unset, .unset, .unset, .unset, .unset, .unset, .unset, .unset, .unset, .unset, .unset] [(.int (6 : Int32)), (.ref b1), (.ref b1)])) rfl (hb hby at_43) t k) ?_
  show own_Ends p e below s _ _ _ (T12.setTop (mkF m 46 #[.val (.int p0), .val (.int p1), .unset, .unset, .unset, .unset, .unset, .unset, .unset, .unset, .unset, .unset, .unset, .unset, .unset, .unset] [(.long (123 : Int64)), (.int (6 : Int32)), (.ref b1), (.ref b1)]))
  obtain ⟨T14, h14, X14, e14, W14, A14, st14⟩ := own_stJ XL13 hx hZ e12 A12 6 (by decide) (by decide) (g := (mkF m 46 #[.val (.int p0), .val (.int p1), .unset, .unset, .unset, .unset, .unset, .unset, .unset, .unset, .unset, .unset, .unset, .unset, .unset, .unset] [(.long (123 : Int64)), (.int (6 : Int32)), (.ref b1), (.ref b1)])) rfl rfl (hb hby at_46)
  refine own_step st14 ?_
  have N14 := Fr.snoc X14 NL13 gn_b1
  have Z14 : n0 ≤ h14.size := by rw [W14.size]; exact Z12
  obtain ⟨LL15, XL15, NL15⟩ : ∃ LL, Stand p l e room_1 s m #[(.int p0), (.int p1)] below meth c T14 LL 1 32 ∧ Fr n0 LL := ⟨_, X14, N14⟩
  show own_Ends p e below s _ _ _ (T14.setTop (mkF m 47 #[.val (.int p0), .val (.int p1), .unset, .unset, .unset, .unset, .unset, .unset, .unset, .unset, .unset, .unset, .unset, .unset, .unset, .unset] [(.ref b1)]))
  refine own_step (fun t k => XS.dup XL15.here hx rfl (hb hby at_47) rfl rfl k) ?_
  show own_Ends p e below s _ _ _ (T14.setTop (mkF m 48 #[.val (.int p0), .val (.int p1), .unset, .unset, .unset, .unset, .unset, .unset, .unset, .unset, .unset, .unset, .unset, .unset, .unset, .unset] [(.ref b1), (.ref b1)]))
  refine own_step (fun t k => XS.bipush XL15.here hx rfl (hb hby at_48) k) ?_
  show own_Ends p e below s _ _ _ (T14.setTop (mkF m 50 #[.val (.int p0), .val (.int p1), .unset, .unset, .unset, .unset, .unset, .unset, .unset, .unset, .unset, .unset, .unset, .unset, .unset, .unset] [(.int (7 : Int32)), (.ref b1), (.ref b1)]))
  refine own_step (fun t k => XL15.ldc2Long hx hown (mvT hZ (hw _ (List.mem_of_getElem? (i := 8) rfl))) (g := (mkF m 50 #[.val (.int p0), .val (.int p1), .unset, .unset, .unset, .unset, .unset, .unset, .unset, .unset, .unset, .unset, .unset, .unset, .unset, .unset] [(.int (7 : Int32)), (.ref b1), (.ref b1)])) rfl (hb hby at_50) t k) ?_
  show own_Ends p e below s _ _ _ (T14.setTop (mkF m 53 #[.val (.int p0), .val (.int p1), .unset, .unset, .unset, .unset, .unset, .unset, .unset, .unset, .unset, .unset, .unset, .unset, .unset, .unset] [(.long (192 : Int64)), (.int (7 : Int32)), (.ref b1), (.ref b1)]))
  obtain ⟨T16, h16, X16, e16, W16, A16, st16⟩ := own_stJ XL15 hx hZ e14 A14 7 (by decide) (by decide) (g := (mkF m 53 #[.val (.int p0), .val (.int p1), .unset, .unset, .unset, .unset, .unset, .unset, .unset, .unset, .unset, .unset, .unset, .unset, .unset, .unset] [(.long (192 : Int64)), (.int (7 : Int32)), (.ref b1), (.ref b1)])) rfl rfl (hb hby at_53)
  refine own_step st16 ?_
  have N16 := Fr.snoc X16 NL15 gn_b1
  have Z16 : n0 ≤ h16.size := by rw [W16.size]; exact Z14
  obtain ⟨LL17, XL17, NL17⟩ : ∃ LL, Stand p l e room_1 s m #[(.int p0), (.int p1)] below meth c T16 LL 1 32 ∧ Fr n0 LL := ⟨_, X16, N16⟩
  show own_Ends p e below s _ _ _ (T16.setTop (mkF m 54 #[.val (.int p0), .val (.int p1), .unset, .unset, .unset, .unset, .unset, .unset, .unset, .unset, .unset, .unset, .unset, .unset, .unset, .unset] [(.ref b1)]))
  refine own_step (fun t k => XS.dup XL17.here hx rfl (hb hby at_54) rfl rfl k) ?_
  show own_Ends p e below s _ _ _ (T16.setTop (mkF m 55 #[.val (.int p0), .val (.int p1), .unset, .unset, .unset, .unset, .unset, .unset, .unset, .unset, .unset, .unset, .unset, .unset, .unset, .unset] [(.ref b1), (.ref b1)]))
  refine own_step (fun t k => XS.bipush XL17.here hx rfl (hb hby at_55) k) ?_
  show own_Ends p e below s _ _ _ (T16.setTop (mkF m 57 #[.val (.int p0), .val (.int p1), .unset, .unset, .unset, .unset, .unset, .unset, .unset, .unset, .unset, .unset, .unset, .unset, .unset, .unset] [(.int (8 : Int32)), (.ref b1), (.ref b1)]))
  refine own_step (fun t k => XL17.ldc2Long hx hown (mvT hZ (hw _ (List.mem_of_getElem? (i := 9) rfl))) (g := (mkF m 57 #[.val (.int p0), .val (.int p1), .unset, .unset, .unset, .unset, .unset, .unset, .unset, .unset, .unset, .unset, .unset, .unset, .unset, .unset] [(.int (8 : Int32)), (.ref b1), (.ref b1)])) rfl (hb hby at_57) t k) ?_
  show own_Ends p e below s _ _ _ (T16.setTop (mkF m 60 #[.val (.int p0), .val (.int p1), .unset, .unset, .unset, .unset, .unset, .unset, .unset, .unset, .unset, .unset, .unset, .unset, .unset, .unset] [(.long (215 : Int64)), (.int (8 : Int32)), (.ref b1), (.ref b1)]))
  obtain ⟨T18, h18, X18, e18, W18, A18, st18⟩ := own_stJ XL17 hx hZ e16 A16 8 (by decide) (by decide) (g := (mkF m 60 #[.val (.int p0), .val (.int p1), .unset, .unset, .unset, .unset, .unset, .unset, .unset, .unset, .unset, .unset, .unset, .unset, .unset, .unset] [(.long (215 : Int64)), (.int (8 : Int32)), (.ref b1), (.ref b1)])) rfl rfl (hb hby at_60)
  refine own_step st18 ?_
  have N18 := Fr.snoc X18 NL17 gn_b1
  have Z18 : n0 ≤ h18.size := by rw [W18.size]; exact Z16
  obtain ⟨LL19, XL19, NL19⟩ : ∃ LL, Stand p l e room_1 s m #[(.int p0), (.int p1)] below meth c T18 LL 1 32 ∧ Fr n0 LL := ⟨_, X18, N18⟩
  show own_Ends p e below s _ _ _ (T18.setTop (mkF m 61 #[.val (.int p0), .val (.int p1), .unset, .unset, .unset, .unset, .unset, .unset, .unset, .unset, .unset, .unset, .unset, .unset, .unset, .unset] [(.ref b1)]))
  refine own_step (fun t k => XS.dup XL19.here hx rfl (hb hby at_61) rfl rfl k) ?_
  show own_Ends p e below s _ _ _ (T18.setTop (mkF m 62 #[.val (.int p0), .val (.int p1), .unset, .unset, .unset, .unset, .unset, .unset, .unset, .unset, .unset, .unset, .unset, .unset, .unset, .unset] [(.ref b1), (.ref b1)]))
  refine own_step (fun t k => XS.bipush XL19.here hx rfl (hb hby at_62) k) ?_
  show own_Ends p e below s _ _ _ (T18.setTop (mkF m 64 #[.val (.int p0), .val (.int p1), .unset, .unset, .unset, .unset, .unset, .unset, .unset, .unset, .unset, .unset, .unset, .unset, .unset, .unset] [(.int (9 : Int32)), (.ref b1), (.ref b1)]))
  refine own_step (fun t k => XL19.ldc2Long hx hown (mvT hZ (hw _ (List.mem_of_getElem? (i := 10) rfl))) (g := (mkF m 64 #[.val (.int p0), .val (.int p1), .unset, .unset, .unset, .unset, .unset, .unset, .unset, .unset, .unset, .unset, .unset, .unset, .unset, .unset] [(.int (9 : Int32)), (.ref b1), (.ref b1)])) rfl (hb hby at_64) t k) ?_
  show own_Ends p e below s _ _ _ (T18.setTop (mkF m 67 #[.val (.int p0), .val (.int p1), .unset, .unset, .unset, .unset, .unset, .unset, .unset, .unset, .unset, .unset, .unset, .unset, .unset, .unset] [(.long (216 : Int64)), (.int (9 : Int32)), (.ref b1), (.ref b1)]))
  obtain ⟨T20, h20, X20, e20, W20, A20, st20⟩ := own_stJ XL19 hx hZ e18 A18 9 (by decide) (by decide) (g := (mkF m 67 #[.val (.int p0), .val (.int p1), .unset, .unset, .unset, .unset, .unset, .unset, .unset, .unset, .unset, .unset, .unset, .unset, .unset, .unset] [(.long (216 : Int64)), (.int (9 : Int32)), (.ref b1), (.ref b1)])) rfl rfl (hb hby at_67)
  refine own_step st20 ?_
  have N20 := Fr.snoc X20 NL19 gn_b1
  have Z20 : n0 ≤ h20.size := by rw [W20.size]; exact Z18
  obtain ⟨LL21, XL21, NL21⟩ : ∃ LL, Stand p l e room_1 s m #[(.int p0), (.int p1)] below meth c T20 LL 1 32 ∧ Fr n0 LL := ⟨_, X20, N20⟩
  show own_Ends p e below s _ _ _ (T20.setTop (mkF m 68 #[.val (.int p0), .val (.int p1), .unset, .unset, .unset, .unset, .unset, .unset, .unset, .unset, .unset, .unset, .unset, .unset, .unset, .unset] [(.ref b1)]))
  refine own_step (fun t k => XS.dup XL21.here hx rfl (hb hby at_68) rfl rfl k) ?_
  show own_Ends p e below s _ _ _ (T20.setTop (mkF m 69 #[.val (.int p0), .val (.int p1), .unset, .unset, .unset, .unset, .unset, .unset, .unset, .unset, .unset, .unset, .unset, .unset, .unset, .unset] [(.ref b1), (.ref b1)]))
  refine own_step (fun t k => XS.bipush XL21.here hx rfl (hb hby at_69) k) ?_
  show own_Ends p e below s _ _ _ (T20.setTop (mkF m 71 #[.val (.int p0), .val (.int p1), .unset, .unset, .unset, .unset, .unset, .unset, .unset, .unset, .unset, .unset, .unset, .unset, .unset, .unset] [(.int (10 : Int32)), (.ref b1), (.ref b1)]))
  refine own_step (fun t k => XL21.ldc2Long hx hown (mvT hZ (hw _ (List.mem_of_getElem? (i := 11) rfl))) (g := (mkF m 71 #[.val (.int p0), .val (.int p1), .unset, .unset, .unset, .unset, .unset, .unset, .unset, .unset, .unset, .unset, .unset, .unset, .unset, .unset] [(.int (10 : Int32)), (.ref b1), (.ref b1)])) rfl (hb hby at_71) t k) ?_
  show own_Ends p e below s _ _ _ (T20.setTop (mkF m 74 #[.val (.int p0), .val (.int p1), .unset, .unset, .unset, .unset, .unset, .unset, .unset, .unset, .unset, .unset, .unset, .unset, .unset, .unset] [(.long (247 : Int64)), (.int (10 : Int32)), (.ref b1), (.ref b1)]))
  obtain ⟨T22, h22, X22, e22, W22, A22, st22⟩ := own_stJ XL21 hx hZ e20 A20 10 (by decide) (by decide) (g := (mkF m 74 #[.val (.int p0), .val (.int p1), .unset, .unset, .unset, .unset, .unset, .unset, .unset, .unset, .unset, .unset, .unset, .unset, .unset, .unset] [(.long (247 : Int64)), (.int (10 : Int32)), (.ref b1), (.ref b1)])) rfl rfl (hb hby at_74)
  refine own_step st22 ?_
  have N22 := Fr.snoc X22 NL21 gn_b1
  have Z22 : n0 ≤ h22.size := by rw [W22.size]; exact Z20
  obtain ⟨LL23, XL23, NL23⟩ : ∃ LL, Stand p l e room_1 s m #[(.int p0), (.int p1)] below meth c T22 LL 1 32 ∧ Fr n0 LL := ⟨_, X22, N22⟩
  show own_Ends p e below s _ _ _ (T22.setTop (mkF m 75 #[.val (.int p0), .val (.int p1), .unset, .unset, .unset, .unset, .unset, .unset, .unset, .unset, .unset, .unset, .unset, .unset, .unset, .unset] [(.ref b1)]))
  refine own_step (fun t k => XS.dup XL23.here hx rfl (hb hby at_75) rfl rfl k) ?_
  show own_Ends p e below s _ _ _ (T22.setTop (mkF m 76 #[.val (.int p0), .val (.int p1), .unset, .unset, .unset, .unset, .unset, .unset, .unset, .unset, .unset, .unset, .unset, .unset, .unset, .unset] [(.ref b1), (.ref b1)]))
  refine own_step (fun t k => XS.bipush XL23.here hx rfl (hb hby at_76) k) ?_
  show own_Ends p e below s _ _ _ (T22.setTop (mkF m 78 #[.val (.int p0), .val (.int p1), .unset, .unset, .unset, .unset, .unset, .unset, .unset, .unset, .unset, .unset, .unset, .unset, .unset, .unset] [(.int (11 : Int32)), (.ref b1), (.ref b1)]))
  refine own_step (fun t k => XL23.ldc2Long hx hown (mvT hZ (hw _ (List.mem_of_getElem? (i := 12) rfl))) (g := (mkF m 78 #[.val (.int p0), .val (.int p1), .unset, .unset, .unset, .unset, .unset, .unset, .unset, .unset, .unset, .unset, .unset, .unset, .unset, .unset] [(.int (11 : Int32)), (.ref b1), (.ref b1)])) rfl (hb hby at_78) t k) ?_
  show own_Ends p e below s _ _ _ (T22.setTop (mkF m 81 #[.val (.int p0), .val (.int p1), .unset, .unset, .unset, .unset, .unset, .unset, .unset, .unset, .unset, .unset, .unset, .unset, .unset, .unset] [(.long (248 : Int64)), (.int (11 : Int32)), (.ref b1), (.ref b1)]))
  obtain ⟨T24, h24, X24, e24, W24, A24, st24⟩ := own_stJ XL23 hx hZ e22 A22 11 (by decide) (by decide) (g := (mkF m 81 #[.val (.int p0), .val (.int p1), .unset, .unset, .unset, .unset, .unset, .unset, .unset, .unset, .unset, .unset, .unset, .unset, .unset, .unset] [(.long (248 : Int64)), (.int (11 : Int32)), (.ref b1), (.ref b1)])) rfl rfl (hb hby at_81)
  refine own_step st24 ?_
  have N24 := Fr.snoc X24 NL23 gn_b1
  have Z24 : n0 ≤ h24.size := by rw [W24.size]; exact Z22
  obtain ⟨LL25, XL25, NL25⟩ : ∃ LL, Stand p l e room_1 s m #[(.int p0), (.int p1)] below meth c T24 LL 1 32 ∧ Fr n0 LL := ⟨_, X24, N24⟩
  show own_Ends p e below s _ _ _ (T24.setTop (mkF m 82 #[.val (.int p0), .val (.int p1), .unset, .unset, .unset, .unset, .unset, .unset, .unset, .unset, .unset, .unset, .unset, .unset, .unset, .unset] [(.ref b1)]))
  refine own_step (fun t k => XS.dup XL25.here hx rfl (hb hby at_82) rfl rfl k) ?_
  show own_Ends p e below s _ _ _ (T24.setTop (mkF m 83 #[.val (.int p0), .val (.int p1), .unset, .unset, .unset, .unset, .unset, .unset, .unset, .unset, .unset, .unset, .unset, .unset, .unset, .unset] [(.ref b1), (.ref b1)]))
  refine own_step (fun t k => XS.bipush XL25.here hx rfl (hb hby at_83) k) ?_
  show own_Ends p e below s _ _ _ (T24.setTop (mkF m 85 #[.val (.int p0), .val (.int p1), .unset, .unset, .unset, .unset, .unset, .unset, .unset, .unset, .unset, .unset, .unset, .unset, .unset, .unset] [(.int (12 : Int32)), (.ref b1), (.ref b1)]))
  refine own_step (fun t k => XL25.ldc2Long hx hown (mvT hZ (hw _ (List.mem_of_getElem? (i := 13) rfl))) (g := (mkF m 85 #[.val (.int p0), .val (.int p1), .unset, .unset, .unset, .unset, .unset, .unset, .unset, .unset, .unset, .unset, .unset, .unset, .unset, .unset] [(.int (12 : Int32)), (.ref b1), (.ref b1)])) rfl (hb hby at_85) t k) ?_
  show own_Ends p e below s _ _ _ (T24.setTop (mkF m 88 #[.val (.int p0), .val (.int p1), .unset, .unset, .unset, .unset, .unset, .unset, .unset, .unset, .unset, .unset, .unset, .unset, .unset, .unset] [(.long (768 : Int64)), (.int (12 : Int32)), (.ref b1), (.ref b1)]))
  obtain ⟨T26, h26, X26, e26, W26, A26, st26⟩ := own_stJ XL25 hx hZ e24 A24 12 (by decide) (by decide) (g := (mkF m 88 #[.val (.int p0), .val (.int p1), .unset, .unset, .unset, .unset, .unset, .unset, .unset, .unset, .unset, .unset, .unset, .unset, .unset, .unset] [(.long (768 : Int64)), (.int (12 : Int32)), (.ref b1), (.ref b1)])) rfl rfl (hb hby at_88)
  refine own_step st26 ?_
  have N26 := Fr.snoc X26 NL25 gn_b1
  have Z26 : n0 ≤ h26.size := by rw [W26.size]; exact Z24
  obtain ⟨LL27, XL27, NL27⟩ : ∃ LL, Stand p l e room_1 s m #[(.int p0), (.int p1)] below meth c T26 LL 1 32 ∧ Fr n0 LL := ⟨_, X26, N26⟩
  show own_Ends p e below s _ _ _ (T26.setTop (mkF m 89 #[.val (.int p0), .val (.int p1), .unset, .unset, .unset, .unset, .unset, .unset, .unset, .unset, .unset, .unset, .unset, .unset, .unset, .unset] [(.ref b1)]))
  refine own_step (fun t k => XS.dup XL27.here hx rfl (hb hby at_89) rfl rfl k) ?_
  show own_Ends p e below s _ _ _ (T26.setTop (mkF m 90 #[.val (.int p0), .val (.int p1), .unset, .unset, .unset, .unset, .unset, .unset, .unset, .unset, .unset, .unset, .unset, .unset, .unset, .unset] [(.ref b1), (.ref b1)]))
  refine own_step (fun t k => XS.bipush XL27.here hx rfl (hb hby at_90) k) ?_
  show own_Ends p e below s _ _ _ (T26.setTop (mkF m 92 #[.val (.int p0), .val (.int p1), .unset, .unset, .unset, .unset, .unset, .unset, .unset, .unset, .unset, .unset, .unset, .unset, .unset, .unset] [(.int (13 : Int32)), (.ref b1), (.ref b1)]))
  refine own_step (fun t k => XL27.ldc2Long hx hown (mvT hZ (hw _ (List.mem_of_getElem? (i := 14) rfl))) (g := (mkF m 92 #[.val (.int p0), .val (.int p1), .unset, .unset, .unset, .unset, .unset, .unset, .unset, .unset, .unset, .unset, .unset, .unset, .unset, .unset] [(.int (13 : Int32)), (.ref b1), (.ref b1)])) rfl (hb hby at_92) t k) ?_
  show own_Ends p e below s _ _ _ (T26.setTop (mkF m 95 #[.val (.int p0), .val (.int p1), .unset, .unset, .unset, .unset, .unset, .unset, .unset, .unset, .unset, .unset, .unset, .unset, .unset, .unset] [(.long (880 : Int64)), (.int (13 : Int32)), (.ref b1), (.ref b1)]))
  obtain ⟨T28, h28, X28, e28, W28, A28, st28⟩ := own_stJ XL27 hx hZ e26 A26 13 (by decide) (by decide) (g := (mkF m 95 #[.val (.int p0), .val (.int p1), .unset, .unset, .unset, .unset, .unset, .unset, .unset, .unset, .unset, .unset, .unset, .unset, .unset, .unset] [(.long (880 : Int64)), (.int (13 : Int32)), (.ref b1), (.ref b1)])) rfl rfl (hb hby at_95)
  refine own_step st28 ?_
  have N28 := Fr.snoc X28 NL27 gn_b1
  have Z28 : n0 ≤ h28.size := by rw [W28.size]; exact Z26
  obtain ⟨LL29, XL29, NL29⟩ : ∃ LL, Stand p l e room_1 s m #[(.int p0), (.int p1)] below meth c T28 LL 1 32 ∧ Fr n0 LL := ⟨_, X28, N28⟩
  show own_Ends p e below s _ _ _ (T28.setTop (mkF m 96 #[.val (.int p0), .val (.int p1), .unset, .unset, .unset, .unset, .unset, .unset, .unset, .unset, .unset, .unset, .unset, .unset, .unset, .unset] [(.ref b1)]))
  refine own_step (fun t k => XS.dup XL29.here hx rfl (hb hby at_96) rfl rfl k) ?_
  show own_Ends p e below s _ _ _ (T28.setTop (mkF m 97 #[.val (.int p0), .val (.int p1), .unset, .unset, .unset, .unset, .unset, .unset, .unset, .unset, .unset, .unset, .unset, .unset, .unset, .unset] [(.ref b1), (.ref b1)]))
  refine own_step (fun t k => XS.bipush XL29.here hx rfl (hb hby at_97) k) ?_
  show own_Ends p e below s _ _ _ (T28.setTop (mkF m 99 #[.val (.int p0), .val (.int p1), .unset, .unset, .unset, .unset, .unset, .unset, .unset, .unset, .unset, .unset, .unset, .unset, .unset, .unset] [(.int (14 : Int32)), (.ref b1), (.ref b1)]))
  refine own_step (fun t k => XL29.ldc2Long hx hown (mvT hZ (hw _ (List.mem_of_getElem? (i := 15) rfl))) (g := (mkF m 99 #[.val (.int p0), .val (.int p1), .unset, .unset, .unset, .unset, .unset, .unset, .unset, .unset, .unset, .unset, .unset, .unset, .unset, .unset] [(.int (14 : Int32)), (.ref b1), (.ref b1)])) rfl (hb hby at_99) t k) ?_
  show own_Ends p e below s _ _ _ (T28.setTop (mkF m 102 #[.val (.int p0), .val (.int p1), .unset, .unset, .unset, .unset, .unset, .unset, .unset, .unset, .unset, .unset, .unset, .unset, .unset, .unset] [(.long (894 : Int64)), (.int (14 : Int32)), (.ref b1), (.ref b1)]))
  obtain ⟨T30, h30, X30, e30, W30, A30, st30⟩ := own_stJ XL29 hx hZ e28 A28 14 (by decide) (by decide) (g := (mkF m 102 #[.val (.int p0), .val (.int p1), .unset, .unset, .unset, .unset, .unset, .unset, .unset, .unset, .unset, .unset, .unset, .unset, .unset, .unset] [(.long (894 : Int64)), (.int (14 : Int32)), (.ref b1), (.ref b1)])) rfl rfl (hb hby at_102)
  refine own_step st30 ?_
  have N30 := Fr.snoc X30 NL29 gn_b1
  have Z30 : n0 ≤ h30.size := by rw [W30.size]; exact Z28
  obtain ⟨LL31, XL31, NL31⟩ : ∃ LL, Stand p l e room_1 s m #[(.int p0), (.int p1)] below meth c T30 LL 1 32 ∧ Fr n0 LL := ⟨_, X30, N30⟩
  show own_Ends p e below s _ _ _ (T30.setTop (mkF m 103 #[.val (.int p0), .val (.int p1), .unset, .unset, .unset, .unset, .unset, .unset, .unset, .unset, .unset, .unset, .unset, .unset, .unset, .unset] [(.ref b1)]))
  refine own_step (fun t k => XS.dup XL31.here hx rfl (hb hby at_103) rfl rfl k) ?_
  show own_Ends p e below s _ _ _ (T30.setTop (mkF m 104 #[.val (.int p0), .val (.int p1), .unset, .unset, .unset, .unset, .unset, .unset, .unset, .unset, .unset, .unset, .unset, .unset, .unset, .unset] [(.ref b1), (.ref b1)]))
  refine own_step (fun t k => XS.bipush XL31.here hx rfl (hb hby at_104) k) ?_
  show own_Ends p e below s _ _ _ (T30.setTop (mkF m 106 #[.val (.int p0), .val (.int p1), .unset, .unset, .unset, .unset, .unset, .unset, .unset, .unset, .unset, .unset, .unset, .unset, .unset, .unset] [(.int (15 : Int32)), (.ref b1), (.ref b1)]))
  refine own_step (fun t k => XL31.ldc2Long hx hown (mvT hZ (hw _ (List.mem_of_getElem? (i := 16) rfl))) (g := (mkF m 106 #[.val (.int p0), .val (.int p1), .unset, .unset, .unset, .unset, .unset, .unset, .unset, .unset, .unset, .unset, .unset, .unset, .unset, .unset] [(.int (15 : Int32)), (.ref b1), (.ref b1)])) rfl (hb hby at_106) t k) ?_
  show own_Ends p e below s _ _ _ (T30.setTop (mkF m 109 #[.val (.int p0), .val (.int p1), .unset, .unset, .unset, .unset, .unset, .unset, .unset, .unset, .unset, .unset, .unset, .unset, .unset, .unset] [(.long (895 : Int64)), (.int (15 : Int32)), (.ref b1), (.ref b1)]))
  obtain ⟨T32, h32, X32, e32, W32, A32, st32⟩ := own_stJ XL31 hx hZ e30 A30 15 (by decide) (by decide) (g := (mkF m 109 #[.val (.int p0), .val (.int p1), .unset, .unset, .unset, .unset, .unset, .unset, .unset, .unset, .unset, .unset, .unset, .unset, .unset, .unset] [(.long (895 : Int64)), (.int (15 : Int32)), (.ref b1), (.ref b1)])) rfl rfl (hb hby at_109)
  refine own_step st32 ?_
  have N32 := Fr.snoc X32 NL31 gn_b1
  have Z32 : n0 ≤ h32.size := by rw [W32.size]; exact Z30
  obtain ⟨LL33, XL33, NL33⟩ : ∃ LL, Stand p l e room_1 s m #[(.int p0), (.int p1)] below meth c T32 LL 1 32 ∧ Fr n0 LL := ⟨_, X32, N32⟩
  show own_Ends p e below s _ _ _ (T32.setTop (mkF m 110 #[.val (.int p0), .val (.int p1), .unset, .unset, .unset, .unset, .unset, .unset, .unset, .unset, .unset, .unset, .unset, .unset, .unset, .unset] [(.ref b1)]))
  refine own_step (fun t k => XS.dup XL33.here hx rfl (hb hby at_110) rfl rfl k) ?_
  show own_Ends p e below s _ _ _ (T32.setTop (mkF m 111 #[.val (.int p0), .val (.int p1), .unset, .unset, .unset, .unset, .unset, .unset, .unset, .unset, .unset, .unset, .unset, .unset, .unset, .unset] [(.ref b1), (.ref b1)]))
  refine own_step (fun t k => XS.bipush XL33.here hx rfl (hb hby at_111) k) ?_
  show own_Ends p e below s _ _ _ (T32.setTop (mkF m 113 #[.val (.int p0), .val (.int p1), .unset, .unset, .unset, .unset, .unset, .unset, .unset, .unset, .unset, .unset, .unset, .unset, .unset, .unset] [(.int (16 : Int32)), (.ref b1), (.ref b1)]))
  refine own_step (fun t k => XL33.ldc2Long hx hown (mvT hZ (hw _ (List.mem_of_getElem? (i := 17) rfl))) (g := (mkF m 113 #[.val (.int p0), .val (.int p1), .unset, .unset, .unset, .unset, .unset, .unset, .unset, .unset, .unset, .unset, .unset, .unset, .unset, .unset] [(.int (16 : Int32)), (.ref b1), (.ref b1)])) rfl (hb hby at_113) t k) ?_
  show own_Ends p e below s _ _ _ (T32.setTop (mkF m 116 #[.val (.int p0), .val (.int p1), .unset, .unset, .unset, .unset, .unset, .unset, .unset, .unset, .unset, .unset, .unset, .unset, .unset, .unset] [(.long (8192 : Int64)), (.int (16 : Int32)), (.ref b1), (.ref b1)]))
  obtain ⟨T34, h34, X34, e34, W34, A34, st34⟩ := own_stJ XL33 hx hZ e32 A32 16 (by decide) (by decide) (g := (mkF m 116 #[.val (.int p0), .val (.int p1), .unset, .unset, .unset, .unset, .unset, .unset, .unset, .unset, .unset, .unset, .unset, .unset, .unset, .unset] [(.long (8192 : Int64)), (.int (16 : Int32)), (.ref b1), (.ref b1)])) rfl rfl (hb hby at_116)
  refine own_step st34 ?_
  have N34 := Fr.snoc X34 NL33 gn_b1
  have Z34 : n0 ≤ h34.size := by rw [W34.size]; exact Z32
  obtain ⟨LL35, XL35, NL35⟩ : ∃ LL, Stand p l e room_1 s m #[(.int p0), (.int p1)] below meth c T34 LL 1 32 ∧ Fr n0 LL := ⟨_, X34, N34⟩
  show own_Ends p e below s _ _ _ (T34.setTop (mkF m 117 #[.val (.int p0), .val (.int p1), .unset, .unset, .unset, .unset, .unset, .unset, .unset, .unset, .unset, .unset, .unset, .unset, .unset, .unset] [(.ref b1)]))
  refine own_step (fun t k => XS.dup XL35.here hx rfl (hb hby at_117) rfl rfl k) ?_
  show own_Ends p e below s _ _ _ (T34.setTop (mkF m 118 #[.val (.int p0), .val (.int p1), .unset, .unset, .unset, .unset, .unset, .unset, .unset, .unset, .unset, .unset, .unset, .unset, .unset, .unset] [(.ref b1), (.ref b1)]))
  refine own_step (fun t k => XS.bipush XL35.here hx rfl (hb hby at_118) k) ?_
  show own_Ends p e below s _ _ _ (T34.setTop (mkF m 120 #[.val (.int p0), .val (.int p1), .unset, .unset, .unset, .unset, .unset, .unset, .unset, .unset, .unset, .unset, .unset, .unset, .unset, .unset] [(.int (17 : Int32)), (.ref b1), (.ref b1)]))
  refine own_step (fun t k => XL35.ldc2Long hx hown (mvT hZ (hw _ (List.mem_of_getElem? (i := 18) rfl))) (g := (mkF m 120 #[.val (.int p0), .val (.int p1), .unset, .unset, .unset, .unset, .unset, .unset, .unset, .unset, .unset, .unset, .unset, .unset, .unset, .unset] [(.int (17 : Int32)), (.ref b1), (.ref b1)])) rfl (hb hby at_120) t k) ?_
  show own_Ends p e below s _ _ _ (T34.setTop (mkF m 123 #[.val (.int p0), .val (.int p1), .unset, .unset, .unset, .unset, .unset, .unset, .unset, .unset, .unset, .unset, .unset, .unset, .unset, .unset] [(.long (8204 : Int64)), (.int (17 : Int32)), (.ref b1), (.ref b1)]))
  obtain ⟨T36, h36, X36, e36, W36, A36, st36⟩ := own_stJ XL35 hx hZ e34 A34 17 (by decide) (by decide) (g := (mkF m 123 #[.val (.int p0), .val (.int p1), .unset, .unset, .unset, .unset, .unset, .unset, .unset, .unset, .unset, .unset, .unset, .unset, .unset, .unset] [(.long (8204 : Int64)), (.int (17 : Int32)), (.ref b1), (.ref b1)])) rfl rfl (hb hby at_123)
  refine own_step st36 ?_
  have N36 := Fr.snoc X36 NL35 gn_b1
  have Z36 : n0 ≤ h36.size := by rw [W36.size]; exact Z34
  obtain ⟨LL37, XL37, NL37⟩ : ∃ LL, Stand p l e room_1 s m #[(.int p0), (.int p1)] below meth c T36 LL 1 32 ∧ Fr n0 LL := ⟨_, X36, N36⟩
  show own_Ends p e below s _ _ _ (T36.setTop (mkF m 124 #[.val (.int p0), .val (.int p1), .unset, .unset, .unset, .unset, .unset, .unset, .unset, .unset, .unset, .unset, .unset, .unset, .unset, .unset] [(.ref b1)]))
  refine own_step (fun t k => XS.dup XL37.here hx rfl (hb hby at_124) rfl rfl k) ?_
  show own_Ends p e below s _ _ _ (T36.setTop (mkF m 125 #[.val (.int p0), .val (.int p1), .unset, .unset, .unset, .unset, .unset, .unset, .unset, .unset, .unset, .unset, .unset, .unset, .unset, .unset] [(.ref b1), (.ref b1)]))
  refine own_step (fun t k => XS.bipush XL37.here hx rfl (hb hby at_125) k) ?_
  show own_Ends p e below s _ _ _ (T36.setTop (mkF m 127 #[.val (.int p0), .val (.int p1), .unset, .unset, .unset, .unset, .unset, .unset, .unset, .unset, .unset, .unset, .unset, .unset, .unset, .unset] [(.int (18 : Int32)), (.ref b1), (.ref b1)]))
  refine own_step (fun t k => XL37.ldc2Long hx hown (mvT hZ (hw _ (List.mem_of_getElem? (i := 19) rfl))) (g := (mkF m 127 #[.val (.int p0), .val (.int p1), .unset, .unset, .unset, .unset, .unset, .unset, .unset, .unset, .unset, .unset, .unset, .unset, .unset, .unset] [(.int (18 : Int32)), (.ref b1), (.ref b1)])) rfl (hb hby at_127) t k) ?_
  show own_Ends p e below s _ _ _ (T36.setTop (mkF m 130 #[.val (.int p0), .val (.int p1), .unset, .unset, .unset, .unset, .unset, .unset, .unset, .unset, .unset, .unset, .unset, .unset, .unset, .unset] [(.long (8206 : Int64)), (.int (18 : Int32)), (.ref b1), (.ref b1)]))
  obtain ⟨T38, h38, X38, e38, W38, A38, st38⟩ := own_stJ XL37 hx hZ e36 A36 18 (by decide) (by decide) (g := (mkF m 130 #[.val (.int p0), .val (.int p1), .unset, .unset, .unset, .unset, .unset, .unset, .unset, .unset, .unset, .unset, .unset, .unset, .unset, .unset] [(.long (8206 : Int64)), (.int (18 : Int32)), (.ref b1), (.ref b1)])) rfl rfl (hb hby at_130)
  refine own_step st38 ?_
  have N38 := Fr.snoc X38 NL37 gn_b1
  have Z38 : n0 ≤ h38.size := by rw [W38.size]; exact Z36
  obtain ⟨LL39, XL39, NL39⟩ : ∃ LL, Stand p l e room_1 s m #[(.int p0), (.int p1)] below meth c T38 LL 1 32 ∧ Fr n0 LL := ⟨_, X38, N38⟩
  show own_Ends p e below s _ _ _ (T38.setTop (mkF m 131 #[.val (.int p0), .val (.int p1), .unset, .unset, .unset, .unset, .unset, .unset, .unset, .unset, .unset, .unset, .unset, .unset, .unset, .unset] [(.ref b1)]))
  refine own_step (fun t k => XS.dup XL39.here hx rfl (hb hby at_131) rfl rfl k) ?_
  show own_Ends p e below s _ _ _ (T38.setTop (mkF m 132 #[.val (.int p0), .val (.int p1), .unset, .unset, .unset, .unset, .unset, .unset, .unset, .unset, .unset, .unset, .unset, .unset, .unset, .unset] [(.ref b1), (.ref b1)]))
  refine own_step (fun t k => XS.bipush XL39.here hx rfl (hb hby at_132) k) ?_
  show own_Ends p e below s _ _ _ (T38.setTop (mkF m 134 #[.val (.int p0), .val (.int p1), .unset, .unset, .unset, .unset, .unset, .unset, .unset, .unset, .unset, .unset, .unset, .unset, .unset, .unset] [(.int (19 : Int32)), (.ref b1), (.ref b1)]))
  refine own_step (fun t k => XL39.ldc2Long hx hown (mvT hZ (hw _ (List.mem_of_getElem? (i := 20) rfl))) (g := (mkF m 134 #[.val (.int p0), .val (.int p1), .unset, .unset, .unset, .unset, .unset, .unset, .unset, .unset, .unset, .unset, .unset, .unset, .unset, .unset] [(.int (19 : Int32)), (.ref b1), (.ref b1)])) rfl (hb hby at_134) t k) ?_
  show own_Ends p e below s _ _ _ (T38.setTop (mkF m 137 #[.val (.int p0), .val (.int p1), .unset, .unset, .unset, .unset, .unset, .unset, .unset, .unset, .unset, .unset, .unset, .unset, .unset, .unset] [(.long (8304 : Int64)), (.int (19 : Int32)), (.ref b1), (.ref b1)]))
  obtain ⟨T40, h40, X40, e40, W40, A40, st40⟩ := own_stJ XL39 hx hZ e38 A38 19 (by decide) (by decide) (g := (mkF m 137 #[.val (.int p0), .val (.int p1), .unset, .unset, .unset, .unset, .unset, .unset, .unset, .unset, .unset, .unset, .unset, .unset, .unset, .unset] [(.long (8304 : Int64)), (.int (19 : Int32)), (.ref b1), (.ref b1)])) rfl rfl (hb hby at_137)
  refine own_step st40 ?_
  have N40 := Fr.snoc X40 NL39 gn_b1
  have Z40 : n0 ≤ h40.size := by rw [W40.size]; exact Z38
  obtain ⟨LL41, XL41, NL41⟩ : ∃ LL, Stand p l e room_1 s m #[(.int p0), (.int p1)] below meth c T40 LL 1 32 ∧ Fr n0 LL := ⟨_, X40, N40⟩
  show own_Ends p e below s _ _ _ (T40.setTop (mkF m 138 #[.val (.int p0), .val (.int p1), .unset, .unset, .unset, .unset, .unset, .unset, .unset, .unset, .unset, .unset, .unset, .unset, .unset, .unset] [(.ref b1)]))
  refine own_step (fun t k => XS.dup XL41.here hx rfl (hb hby at_138) rfl rfl k) ?_
  show own_Ends p e below s _ _ _ (T40.setTop (mkF m 139 #[.val (.int p0), .val (.int p1), .unset, .unset, .unset, .unset, .unset, .unset, .unset, .unset, .unset, .unset, .unset, .unset, .unset, .unset] [(.ref b1), (.ref b1)]))
  refine own_step (fun t k => XS.bipush XL41.here hx rfl (hb hby at_139) k) ?_
  show own_Ends p e below s _ _ _ (T40.setTop (mkF m 141 #[.val (.int p0), .val (.int p1), .unset, .unset, .unset, .unset, .unset, .unset, .unset, .unset, .unset, .unset, .unset, .unset, .unset, .unset] [(.int (20 : Int32)), (.ref b1), (.ref b1)]))
  refine own_step (fun t k => XL41.ldc2Long hx hown (mvT hZ (hw _ (List.mem_of_getElem? (i := 21) rfl))) (g := (mkF m 141 #[.val (.int p0), .val (.int p1), .unset, .unset, .unset, .unset, .unset, .unset, .unset, .unset, .unset, .unset, .unset, .unset, .unset, .unset] [(.int (20 : Int32)), (.ref b1), (.ref b1)])) rfl (hb hby at_141) t k) ?_
  show own_Ends p e below s _ _ _ (T40.setTop (mkF m 144 #[.val (.int p0), .val (.int p1), .unset, .unset, .unset, .unset, .unset, .unset, .unset, .unset, .unset, .unset, .unset, .unset, .unset, .unset] [(.long (8592 : Int64)), (.int (20 : Int32)), (.ref b1), (.ref b1)]))
  obtain ⟨T42, h42, X42, e42, W42, A42, st42⟩ := own_stJ XL41 hx hZ e40 A40 20 (by decide) (by decide) (g := (mkF m 144 #[.val (.int p0), .val (.int p1), .unset, .unset, .unset, .unset, .unset, .unset, .unset, .unset, .unset, .unset, .unset, .unset, .unset, .unset] [(.long (8592 : Int64)), (.int (20 : Int32)), (.ref b1), (.ref b1)])) rfl rfl (hb hby at_144)
  refine own_step st42 ?_
  have N42 := Fr.snoc X42 NL41 gn_b1
  have Z42 : n0 ≤ h42.size := by rw [W42.size]; exact Z40
  obtain ⟨LL43, XL43, NL43⟩ : ∃ LL, Stand p l e room_1 s m #[(.int p0), (.int p1)] below meth c T42 LL 1 32 ∧ Fr n0 LL := ⟨_, X42, N42⟩
  show own_Ends p e below s _ _ _ (T42.setTop (mkF m 145 #[.val (.int p0), .val (.int p1), .unset, .unset, .unset, .unset, .unset, .unset, .unset, .unset, .unset, .unset, .unset, .unset, .unset, .unset] [(.ref b1)]))
  refine own_step (fun t k => XS.dup XL43.here hx rfl (hb hby at_145) rfl rfl k) ?_
  show own_Ends p e below s _ _ _ (T42.setTop (mkF m 146 #[.val (.int p0), .val (.int p1), .unset, .unset, .unset, .unset, .unset, .unset, .unset, .unset, .unset, .unset, .unset, .unset, .unset, .unset] [(.ref b1), (.ref b1)]))
  refine own_step (fun t k => XS.bipush XL43.here hx rfl (hb hby at_146) k) ?_
  show own_Ends p e below s _ _ _ (T42.setTop (mkF m 148 #[.val (.int p0), .val (.int p1), .unset, .unset, .unset, .unset, .unset, .unset, .unset, .unset, .unset, .unset, .unset, .unset, .unset, .unset] [(.int (21 : Int32)), (.ref b1), (.ref b1)]))
  refine own_step (fun t k => XL43.ldc2Long hx hown (mvT hZ (hw _ (List.mem_of_getElem? (i := 22) rfl))) (g := (mkF m 148 #[.val (.int p0), .val (.int p1), .unset, .unset, .unset, .unset, .unset, .unset, .unset, .unset, .unset, .unset, .unset, .unset, .unset, .unset] [(.int (21 : Int32)), (.ref b1), (.ref b1)])) rfl (hb hby at_148) t k) ?_
  show own_Ends p e below s _ _ _ (T42.setTop (mkF m 151 #[.val (.int p0), .val (.int p1), .unset, .unset, .unset, .unset, .unset, .unset, .unset, .unset, .unset, .unset, .unset, .unset, .unset, .unset] [(.long (11264 : Int64)), (.int (21 : Int32)), (.ref b1), (.ref b1)]))
  obtain ⟨T44, h44, X44, e44, W44, A44, st44⟩ := own_stJ XL43 hx hZ e42 A42 21 (by decide) (by decide) (g := (mkF m 151 #[.val (.int p0), .val (.int p1), .unset, .unset, .unset, .unset, .unset, .unset, .unset, .unset, .unset, .unset, .unset, .unset, .unset, .unset] [(.long (11264 : Int64)), (.int (21 : Int32)), (.ref b1), (.ref b1)])) rfl rfl (hb hby at_151)
  refine own_step st44 ?_
  have N44 := Fr.snoc X44 NL43 gn_b1
  have Z44 : n0 ≤ h44.size := by rw [W44.size]; exact Z42
  obtain ⟨LL45, XL45, NL45⟩ : ∃ LL, Stand p l e room_1 s m #[(.int p0), (.int p1)] below meth c T44 LL 1 32 ∧ Fr n0 LL := ⟨_, X44, N44⟩
  show own_Ends p e below s _ _ _ (T44.setTop (mkF m 152 #[.val (.int p0), .val (.int p1), .unset, .unset, .unset, .unset, .unset, .unset, .unset, .unset, .unset, .unset, .unset, .unset, .unset, .unset] [(.ref b1)]))
  refine own_step (fun t k => XS.dup XL45.here hx rfl (hb hby at_152) rfl rfl k) ?_
  show own_Ends p e below s _ _ _ (T44.setTop (mkF m 153 #[.val (.int p0), .val (.int p1), .unset, .unset, .unset, .unset, .unset, .unset, .unset, .unset, .unset, .unset, .unset, .unset, .unset, .unset] [(.ref b1), (.ref b1)]))
  refine own_step (fun t k => XS.bipush XL45.here hx rfl (hb hby at_153) k) ?_
  show own_Ends p e below s _ _ _ (T44.setTop (mkF m 155 #[.val (.int p0), .val (.int p1), .unset, .unset, .unset, .unset, .unset, .unset, .unset, .unset, .unset, .unset, .unset, .unset, .unset, .unset] [(.int (22 : Int32)), (.ref b1), (.ref b1)]))
  refine own_step (fun t k => XL45.ldc2Long hx hown (mvT hZ (hw _ (List.mem_of_getElem? (i := 23) rfl))) (g := (mkF m 155 #[.val (.int p0), .val (.int p1), .unset, .unset, .unset, .unset, .unset, .unset, .unset, .unset, .unset, .unset, .unset, .unset, .unset, .unset] [(.int (22 : Int32)), (.ref b1), (.ref b1)])) rfl (hb hby at_155) t k) ?_
  show own_Ends p e below s _ _ _ (T44.setTop (mkF m 158 #[.val (.int p0), .val (.int p1), .unset, .unset, .unset, .unset, .unset, .unset, .unset, .unset, .unset, .unset, .unset, .unset, .unset, .unset] [(.long (12272 : Int64)), (.int (22 : Int32)), (.ref b1), (.ref b1)]))
  obtain ⟨T46, h46, X46, e46, W46, A46, st46⟩ := own_stJ XL45 hx hZ e44 A44 22 (by decide) (by decide) (g := (mkF m 158 #[.val (.int p0), .val (.int p1), .unset, .unset, .unset, .unset, .unset, .unset, .unset, .unset, .unset, .unset, .unset, .unset, .unset, .unset] [(.long (12272 : Int64)), (.int (22 : Int32)), (.ref b1), (.ref b1)])) rfl rfl (hb hby at_158)
  refine own_step st46 ?_
  have N46 := Fr.snoc X46 NL45 gn_b1
  have Z46 : n0 ≤ h46.size := by rw [W46.size]; exact Z44
  obtain ⟨LL47, XL47, NL47⟩ : ∃ LL, Stand p l e room_1 s m #[(.int p0), (.int p1)] below meth c T46 LL 1 32 ∧ Fr n0 LL := ⟨_, X46, N46⟩
  show own_Ends p e below s _ _ _ (T46.setTop (mkF m 159 #[.val (.int p0), .val (.int p1), .unset, .unset, .unset, .unset, .unset, .unset, .unset, .unset, .unset, .unset, .unset, .unset, .unset, .unset] [(.ref b1)]))
  refine own_step (fun t k => XS.dup XL47.here hx rfl (hb hby at_159) rfl rfl k) ?_
  show own_Ends p e below s _ _ _ (T46.setTop (mkF m 160 #[.val (.int p0), .val (.int p1), .unset, .unset, .unset, .unset, .unset, .unset, .unset, .unset, .unset, .unset, .unset, .unset, .unset, .unset] [(.ref b1), (.ref b1)]))
  refine own_step (fun t k => XS.bipush XL47.here hx rfl (hb hby at_160) k) ?_
  show own_Ends p e below s _ _ _ (T46.setTop (mkF m 162 #[.val (.int p0), .val (.int p1), .unset, .unset, .unset, .unset, .unset, .unset, .unset, .unset, .unset, .unset, .unset, .unset, .unset, .unset] [(.int (23 : Int32)), (.ref b1), (.ref b1)]))
  refine own_step (fun t k => XL47.ldc2Long hx hown (mvT hZ (hw _ (List.mem_of_getElem? (i := 24) rfl))) (g := (mkF m 162 #[.val (.int p0), .val (.int p1), .unset, .unset, .unset, .unset, .unset, .unset, .unset, .unset, .unset, .unset, .unset, .unset, .unset, .unset] [(.int (23 : Int32)), (.ref b1), (.ref b1)])) rfl (hb hby at_162) t k) ?_
  show own_Ends p e below s _ _ _ (T46.setTop (mkF m 165 #[.val (.int p0), .val (.int p1), .unset, .unset, .unset, .unset, .unset, .unset, .unset, .unset, .unset, .unset, .unset, .unset, .unset, .unset] [(.long (12289 : Int64)), (.int (23 : Int32)), (.ref b1), (.ref b1)]))
  obtain ⟨T48, h48, X48, e48, W48, A48, st48⟩ := own_stJ XL47 hx hZ e46 A46 23 (by decide) (by decide) (g := (mkF m 165 #[.val (.int p0), .val (.int p1), .unset, .unset, .unset, .unset, .unset, .unset, .unset, .unset, .unset, .unset, .unset, .unset, .unset, .unset] [(.long (12289 : Int64)), (.int (23 : Int32)), (.ref b1), (.ref b1)])) rfl rfl (hb hby at_165)
  refine own_step st48 ?_
  have N48 := Fr.snoc X48 NL47 gn_b1
  have Z48 : n0 ≤ h48.size := by rw [W48.size]; exact Z46
  obtain ⟨LL49, XL49, NL49⟩ : ∃ LL, Stand p l e room_1 s m #[(.int p0), (.int p1)] below meth c T48 LL 1 32 ∧ Fr n0 LL := ⟨_, X48, N48⟩
  show own_Ends p e below s _ _ _ (T48.setTop (mkF m 166 #[.val (.int p0), .val (.int p1), .unset, .unset, .unset, .unset, .unset, .unset, .unset, .unset, .unset, .unset, .unset, .unset, .unset, .unset] [(.ref b1)]))
  refine own_step (fun t k => XS.dup XL49.here hx rfl (hb hby at_166) rfl rfl k) ?_
  show own_Ends p e below s _ _ _ (T48.setTop (mkF m 167 #[.val (.int p0), .val (.int p1), .unset, .unset, .unset, .unset, .unset, .unset, .unset, .unset, .unset, .unset, .unset, .unset, .unset, .unset] [(.ref b1), (.ref b1)]))
  refine own_step (fun t k => XS.bipush XL49.here hx rfl (hb hby at_167) k) ?_
  show own_Ends p e below s _ _ _ (T48.setTop (mkF m 169 #[.val (.int p0), .val (.int p1), .unset, .unset, .unset, .unset, .unset, .unset, .unset, .unset, .unset, .unset, .unset, .unset, .unset, .unset] [(.int (24 : Int32)), (.ref b1), (.ref b1)]))
  refine own_step (fun t k => XL49.ldc2Long hx hown (mvT hZ (hw _ (List.mem_of_getElem? (i := 25) rfl))) (g := (mkF m 169 #[.val (.int p0), .val (.int p1), .unset, .unset, .unset, .unset, .unset, .unset, .unset, .unset, .unset, .unset, .unset, .unset, .unset, .unset] [(.int (24 : Int32)), (.ref b1), (.ref b1)])) rfl (hb hby at_169) t k) ?_
  show own_Ends p e below s _ _ _ (T48.setTop (mkF m 172 #[.val (.int p0), .val (.int p1), .unset, .unset, .unset, .unset, .unset, .unset, .unset, .unset, .unset, .unset, .unset, .unset, .unset, .unset] [(.long (55296 : Int64)), (.int (24 : Int32)), (.ref b1), (.ref b1)]))
  obtain ⟨T50, h50, X50, e50, W50, A50, st50⟩ := own_stJ XL49 hx hZ e48 A48 24 (by decide) (by decide) (g := (mkF m 172 #[.val (.int p0), .val (.int p1), .unset, .unset, .unset, .unset, .unset, .unset, .unset, .unset, .unset, .unset, .unset, .unset, .unset, .unset] [(.long (55296 : Int64)), (.int (24 : Int32)), (.ref b1), (.ref b1)])) rfl rfl (hb hby at_172)
  refine own_step st50 ?_
  have N50 := Fr.snoc X50 NL49 gn_b1
  have Z50 : n0 ≤ h50.size := by rw [W50.size]; exact Z48
  obtain ⟨LL51, XL51, NL51⟩ : ∃ LL, Stand p l e room_1 s m #[(.int p0), (.int p1)] below meth c T50 LL 1 32 ∧ Fr n0 LL := ⟨_, X50, N50⟩
  show own_Ends p e below s _ _ _ (T50.setTop (mkF m 173 #[.val (.int p0), .val (.int p1), .unset, .unset, .unset, .unset, .unset, .unset, .unset, .unset, .unset, .unset, .unset, .unset, .unset, .unset] [(.ref b1)]))
  refine own_step (fun t k => XS.dup XL51.here hx rfl (hb hby at_173) rfl rfl k) ?_
  show own_Ends p e below s _ _ _ (T50.setTop (mkF m 174 #[.val (.int p0), .val (.int p1), .unset, .unset, .unset, .unset, .unset, .unset, .unset, .unset, .unset, .unset, .unset, .unset, .unset, .unset] [(.ref b1), (.ref b1)]))
  refine own_step (fun t k => XS.bipush XL51.here hx rfl (hb hby at_174) k) ?_
  show own_Ends p e below s _ _ _ (T50.setTop (mkF m 176 #[.val (.int p0), .val (.int p1), .unset, .unset, .unset, .unset, .unset, .unset, .unset, .unset, .unset, .unset, .unset, .unset, .unset, .unset] [(.int (25 : Int32)), (.ref b1), (.ref b1)]))
  refine own_step (fun t k => XL51.ldc2Long hx hown (mvT hZ (hw _ (List.mem_of_getElem? (i := 26) rfl))) (g := (mkF m 176 #[.val (.int p0), .val (.int p1), .unset, .unset, .unset, .unset, .unset, .unset, .unset, .unset, .unset, .unset, .unset, .unset, .unset, .unset] [(.int (25 : Int32)), (.ref b1), (.ref b1)])) rfl (hb hby at_176) t k) ?_
  show own_Ends p e below s _ _ _ (T50.setTop (mkF m 179 #[.val (.int p0), .val (.int p1), .unset, .unset, .unset, .unset, .unset, .unset, .unset, .unset, .unset, .unset, .unset, .unset, .unset, .unset] [(.long (63744 : Int64)), (.int (25 : Int32)), (.ref b1), (.ref b1)]))
  obtain ⟨T52, h52, X52, e52, W52, A52, st52⟩ := own_stJ XL51 hx hZ e50 A50 25 (by decide) (by decide) (g := (mkF m 179 #[.val (.int p0), .val (.int p1), .unset, .unset, .unset, .unset, .unset, .unset, .unset, .unset, .unset, .unset, .unset, .unset, .unset, .unset] [(.long (63744 : Int64)), (.int (25 : Int32)), (.ref b1), (.ref b1)])) rfl rfl (hb hby at_179)
  refine own_step st52 ?_
  have N52 := Fr.snoc X52 NL51 gn_b1
  have Z52 : n0 ≤ h52.size := by rw [W52.size]; exact Z50
  obtain ⟨LL53, XL53, NL53⟩ : ∃ LL, Stand p l e room_1 s m #[(.int p0), (.int p1)] below meth c T52 LL 1 32 ∧ Fr n0 LL := ⟨_, X52, N52⟩
  show own_Ends p e below s _ _ _ (T52.setTop (mkF m 180 #[.val (.int p0), .val (.int p1), .unset, .unset, .unset, .unset, .unset, .unset, .unset, .unset, .unset, .unset, .unset, .unset, .unset, .unset] [(.ref b1)]))
  refine own_step (fun t k => XS.dup XL53.here hx rfl (hb hby at_180) rfl rfl k) ?_
  show own_Ends p e below s _ _ _ (T52.setTop (mkF m 181 #[.val (.int p0), .val (.int p1), .unset, .unset, .unset, .unset, .unset, .unset, .unset, .unset, .unset, .unset, .unset, .unset, .unset, .unset] [(.ref b1), (.ref b1)]))
  refine own_step (fun t k => XS.bipush XL53.here hx rfl (hb hby at_181) k) ?_
  show own_Ends p e below s _ _ _ (T52.setTop (mkF m 183 #[.val (.int p0), .val (.int p1), .unset, .unset, .unset, .unset, .unset, .unset, .unset, .unset, .unset, .unset, .unset, .unset, .unset, .unset] [(.int (26 : Int32)), (.ref b1), (.ref b1)]))
  refine own_step (fun t k => XL53.ldc2Long hx hown (mvT hZ (hw _ (List.mem_of_getElem? (i := 27) rfl))) (g := (mkF m 183 #[.val (.int p0), .val (.int p1), .unset, .unset, .unset, .unset, .unset, .unset, .unset, .unset, .unset, .unset, .unset, .unset, .unset, .unset] [(.int (26 : Int32)), (.ref b1), (.ref b1)])) rfl (hb hby at_183) t k) ?_
  show own_Ends p e below s _ _ _ (T52.setTop (mkF m 186 #[.val (.int p0), .val (.int p1), .unset, .unset, .unset, .unset, .unset, .unset, .unset, .unset, .unset, .unset, .unset, .unset, .unset, .unset] [(.long (64976 : Int64)), (.int (26 : Int32)), (.ref b1), (.ref b1)]))
  obtain ⟨T54, h54, X54, e54, W54, A54, st54⟩ := own_stJ XL53 hx hZ e52 A52 26 (by decide) (by decide) (g := (mkF m 186 #[.val (.int p0), .val (.int p1), .unset, .unset, .unset, .unset, .unset, .unset, .unset, .unset, .unset, .unset, .unset, .unset, .unset, .unset] [(.long (64976 : Int64)), (.int (26 : Int32)), (.ref b1), (.ref b1)])) rfl rfl (hb hby at_186)
  refine own_step st54 ?_
  have N54 := Fr.snoc X54 NL53 gn_b1
  have Z54 : n0 ≤ h54.size := by rw [W54.size]; exact Z52
  obtain ⟨LL55, XL55, NL55⟩ : ∃ LL, Stand p l e room_1 s m #[(.int p0), (.int p1)] below meth c T54 LL 1 32 ∧ Fr n0 LL := ⟨_, X54, N54⟩
  show own_Ends p e below s _ _ _ (T54.setTop (mkF m 187 #[.val (.int p0), .val (.int p1), .unset, .unset, .unset, .unset, .unset, .unset, .unset, .unset, .unset, .unset, .unset, .unset, .unset, .unset] [(.ref b1)]))
  refine own_step (fun t k => XS.dup XL55.here hx rfl (hb hby at_187) rfl rfl k) ?_
  show own_Ends p e below s _ _ _ (T54.setTop (mkF m 188 #[.val (.int p0), .val (.int p1), .unset, .unset, .unset, .unset, .unset, .unset, .unset, .unset, .unset, .unset, .unset, .unset, .unset, .unset] [(.ref b1), (.ref b1)]))
  refine own_step (fun t k => XS.bipush XL55.here hx rfl (hb hby at_188) k) ?_
  show own_Ends p e below s _ _ _ (T54.setTop (mkF m 190 #[.val (.int p0), .val (.int p1), .unset, .unset, .unset, .unset, .unset, .unset, .unset, .unset, .unset, .unset, .unset, .unset, .unset, .unset] [(.int (27 : Int32)), (.ref b1), (.ref b1)]))
  refine own_step (fun t k => XL55.ldc2Long hx hown (mvT hZ (hw _ (List.mem_of_getElem? (i := 28) rfl))) (g := (mkF m 190 #[.val (.int p0), .val (.int p1), .unset, .unset, .unset, .unset, .unset, .unset, .unset, .unset, .unset, .unset, .unset, .unset, .unset, .unset] [(.int (27 : Int32)), (.ref b1), (.ref b1)])) rfl (hb hby at_190) t k) ?_
  show own_Ends p e below s _ _ _ (T54.setTop (mkF m 193 #[.val (.int p0), .val (.int p1), .unset, .unset, .unset, .unset, .unset, .unset, .unset, .unset, .unset, .unset, .unset, .unset, .unset, .unset] [(.long (65008 : Int64)), (.int (27 : Int32)), (.ref b1), (.ref b1)]))
  obtain ⟨T56, h56, X56, e56, W56, A56, st56⟩ := own_stJ XL55 hx hZ e54 A54 27 (by decide) (by decide) (g := (mkF m 193 #[.val (.int p0), .val (.int p1), .unset, .unset, .unset, .unset, .unset, .unset, .unset, .unset, .unset, .unset, .unset, .unset, .unset, .unset] [(.long (65008 : Int64)), (.int (27 : Int32)), (.ref b1), (.ref b1)])) rfl rfl (hb hby at_193)
  refine own_step st56 ?_
  have N56 := Fr.snoc X56 NL55 gn_b1
  have Z56 : n0 ≤ h56.size := by rw [W56.size]; exact Z54
  obtain ⟨LL57, XL57, NL57⟩ : ∃ LL, Stand p l e room_1 s m #[(.int p0), (.int p1)] below meth c T56 LL 1 32 ∧ Fr n0 LL := ⟨_, X56, N56⟩
  show own_Ends p e below s _ _ _ (T56.setTop (mkF m 194 #[.val (.int p0), .val (.int p1), .unset, .unset, .unset, .unset, .unset, .unset, .unset, .unset, .unset, .unset, .unset, .unset, .unset, .unset] [(.ref b1)]))
  refine own_step (fun t k => XS.dup XL57.here hx rfl (hb hby at_194) rfl rfl k) ?_
  show own_Ends p e below s _ _ _ (T56.setTop (mkF m 195 #[.val (.int p0), .val (.int p1), .unset, .unset, .unset, .unset, .unset, .unset, .unset, .unset, .unset, .unset, .unset, .unset, .unset, .unset] [(.ref b1), (.ref b1)]))
  refine own_step (fun t k => XS.bipush XL57.here hx rfl (hb hby at_195) k) ?_
  show own_Ends p e below s _ _ _ (T56.setTop (mkF m 197 #[.val (.int p0), .val (.int p1), .unset, .unset, .unset, .unset, .unset, .unset, .unset, .unset, .unset, .unset, .unset, .unset, .unset, .unset] [(.int (28 : Int32)), (.ref b1), (.ref b1)]))
  refine own_step (fun t k => XL57.ldc2Long hx hown (mvT hZ (hw _ (List.mem_of_getElem? (i := 29) rfl))) (g := (mkF m 197 #[.val (.int p0), .val (.int p1), .unset, .unset, .unset, .unset, .unset, .unset, .unset, .unset, .unset, .unset, .unset, .unset, .unset, .unset] [(.int (28 : Int32)), (.ref b1), (.ref b1)])) rfl (hb hby at_197) t k) ?_
  show own_Ends p e below s _ _ _ (T56.setTop (mkF m 200 #[.val (.int p0), .val (.int p1), .unset, .unset, .unset, .unset, .unset, .unset, .unset, .unset, .unset, .unset, .unset, .unset, .unset, .unset] [(.long (65534 : Int64)), (.int (28 : Int32)), (.ref b1), (.ref b1)]))
  obtain ⟨T58, h58, X58, e58, W58, A58, st58⟩ := own_stJ XL57 hx hZ e56 A56 28 (by decide) (by decide) (g := (mkF m 200 #[.val (.int p0), .val (.int p1), .unset, .unset, .unset, .unset, .unset, .unset, .unset, .unset, .unset, .unset, .unset, .unset, .unset, .unset] [(.long (65534 : Int64)), (.int (28 : Int32)), (.ref b1), (.ref b1)])) rfl rfl (hb hby at_200)
  refine own_step st58 ?_
  have N58 := Fr.snoc X58 NL57 gn_b1
  have Z58 : n0 ≤ h58.size := by rw [W58.size]; exact Z56
  obtain ⟨LL59, XL59, NL59⟩ : ∃ LL, Stand p l e room_1 s m #[(.int p0), (.int p1)] below meth c T58 LL 1 32 ∧ Fr n0 LL := ⟨_, X58, N58⟩
  show own_Ends p e below s _ _ _ (T58.setTop (mkF m 201 #[.val (.int p0), .val (.int p1), .unset, .unset, .unset, .unset, .unset, .unset, .unset, .unset, .unset, .unset, .unset, .unset, .unset, .unset] [(.ref b1)]))
  refine own_step (fun t k => XS.dup XL59.here hx rfl (hb hby at_201) rfl rfl k) ?_
  show own_Ends p e below s _ _ _ (T58.setTop (mkF m 202 #[.val (.int p0), .val (.int p1), .unset, .unset, .unset, .unset, .unset, .unset, .unset, .unset, .unset, .unset, .unset, .unset, .unset, .unset] [(.ref b1), (.ref b1)]))
  refine own_step (fun t k => XS.bipush XL59.here hx rfl (hb hby at_202) k) ?_
  show own_Ends p e below s _ _ _ (T58.setTop (mkF m 204 #[.val (.int p0), .val (.int p1), .unset, .unset, .unset, .unset, .unset, .unset, .unset, .unset, .unset, .unset, .unset, .unset, .unset, .unset] [(.int (29 : Int32)), (.ref b1), (.ref b1)]))
  refine own_step (fun t k => XL59.ldc2Long hx hown (mvT hZ (hw _ (List.mem_of_getElem? (i := 30) rfl))) (g := (mkF m 204 #[.val (.int p0), .val (.int p1), .unset, .unset, .unset, .unset, .unset, .unset, .unset, .unset, .unset, .unset, .unset, .unset, .unset, .unset] [(.int (29 : Int32)), (.ref b1), (.ref b1)])) rfl (hb hby at_204) t k) ?_
  show own_Ends p e below s _ _ _ (T58.setTop (mkF m 207 #[.val (.int p0), .val (.int p1), .unset, .unset, .unset, .unset, .unset, .unset, .unset, .unset, .unset, .unset, .unset, .unset, .unset, .unset] [(.long (65536 : Int64)), (.int (29 : Int32)), (.ref b1), (.ref b1)]))
  obtain ⟨T60, h60, X60, e60, W60, A60, st60⟩ := own_stJ XL59 hx hZ e58 A58 29 (by decide) (by decide) (g := (mkF m 207 #[.val (.int p0), .val (.int p1), .unset, .unset, .unset, .unset, .unset, .unset, .unset, .unset, .unset, .unset, .unset, .unset, .unset, .unset] [(.long (65536 : Int64)), (.int (29 : Int32)), (.ref b1), (.ref b1)])) rfl rfl (hb hby at_207)
  refine own_step st60 ?_
  have N60 := Fr.snoc X60 NL59 gn_b1
  have Z60 : n0 ≤ h60.size := by rw [W60.size]; exact Z58
  obtain ⟨LL61, XL61, NL61⟩ : ∃ LL, Stand p l e room_1 s m #[(.int p0), (.int p1)] below meth c T60 LL 1 32 ∧ Fr n0 LL := ⟨_, X60, N60⟩
  show own_Ends p e below s _ _ _ (T60.setTop (mkF m 208 #[.val (.int p0), .val (.int p1), .unset, .unset, .unset, .unset, .unset, .unset, .unset, .unset, .unset, .unset, .unset, .unset, .unset, .unset] [(.ref b1)]))
  refine own_step (fun t k => XS.dup XL61.here hx rfl (hb hby at_208) rfl rfl k) ?_
  show own_Ends p e below s _ _ _ (T60.setTop (mkF m 209 #[.val (.int p0), .val (.int p1), .unset, .unset, .unset, .unset, .unset, .unset, .unset, .unset, .unset, .unset, .unset, .unset, .unset, .unset] [(.ref b1), (.ref b1)]))
  refine own_step (fun t k => XS.bipush XL61.here hx rfl (hb hby at_209) k) ?_
  show own_Ends p e below s _ _ _ (T60.setTop (mkF m 211 #[.val (.int p0), .val (.int p1), .unset, .unset, .unset, .unset, .unset, .unset, .unset, .unset, .unset, .unset, .unset, .unset, .unset, .unset] [(.int (30 : Int32)), (.ref b1), (.ref b1)]))
  refine own_step (fun t k => XL61.ldc2Long hx hown (mvT hZ (hw _ (List.mem_of_getElem? (i := 31) rfl))) (g := (mkF m 211 #[.val (.int p0), .val (.int p1), .unset, .unset, .unset, .unset, .unset, .unset, .unset, .unset, .unset, .unset, .unset, .unset, .unset, .unset] [(.int (30 : Int32)), (.ref b1), (.ref b1)])) rfl (hb hby at_211) t k) ?_
  show own_Ends p e below s _ _ _ (T60.setTop (mkF m 214 #[.val (.int p0), .val (.int p1), .unset, .unset, .unset, .unset, .unset, .unset, .unset, .unset, .unset, .unset, .unset, .unset, .unset, .unset] [(.long (983040 : Int64)), (.int (30 : Int32)), (.ref b1), (.ref b1)]))
  obtain ⟨T62, h62, X62, e62, W62, A62, st62⟩ := own_stJ XL61 hx hZ e60 A60 30 (by decide) (by decide) (g := (mkF m 214 #[.val (.int p0), .val (.int p1), .unset, .unset, .unset, .unset, .unset, .unset, .unset, .unset, .unset, .unset, .unset, .unset, .unset, .unset] [(.long (983040 : Int64)), (.int (30 : Int32)), (.ref b1), (.ref b1)])) rfl rfl (hb hby at_214)
  refine own_step st62 ?_
  have N62 := Fr.snoc X62 NL61 gn_b1
  have Z62 : n0 ≤ h62.size := by rw [W62.size]; exact Z60
  obtain ⟨LL63, XL63, NL63⟩ : ∃ LL, Stand p l e room_1 s m #[(.int p0), (.int p1)] below meth c T62 LL 1 32 ∧ Fr n0 LL := ⟨_, X62, N62⟩
  show own_Ends p e below s _ _ _ (T62.setTop (mkF m 215 #[.val (.int p0), .val (.int p1), .unset, .unset, .unset, .unset, .unset, .unset, .unset, .unset, .unset, .unset, .unset, .unset, .unset, .unset] [(.ref b1)]))
  refine own_step (fun t k => XS.dup XL63.here hx rfl (hb hby at_215) rfl rfl k) ?_
  show own_Ends p e below s _ _ _ (T62.setTop (mkF m 216 #[.val (.int p0), .val (.int p1), .unset, .unset, .unset, .unset, .unset, .unset, .unset, .unset, .unset, .unset, .unset, .unset, .unset, .unset] [(.ref b1), (.ref b1)]))
  refine own_step (fun t k => XS.bipush XL63.here hx rfl (hb hby at_216) k) ?_
  show own_Ends p e below s _ _ _ (T62.setTop (mkF m 218 #[.val (.int p0), .val (.int p1), .unset, .unset, .unset, .unset, .unset, .unset, .unset, .unset, .unset, .unset, .unset, .unset, .unset, .unset] [(.int (31 : Int32)), (.ref b1), (.ref b1)]))
  refine own_step (fun t k => XL63.ldc2Long hx hown (mvT hZ (hw _ (List.mem_of_getElem? (i := 32) rfl))) (g := (mkF m 218 #[.val (.int p0), .val (.int p1), .unset, .unset, .unset, .unset, .unset, .unset, .unset, .unset, .unset, .unset, .unset, .unset, .unset, .unset] [(.int (31 : Int32)), (.ref b1), (.ref b1)])) rfl (hb hby at_218) t k) ?_
  show own_Ends p e below s _ _ _ (T62.setTop (mkF m 221 #[.val (.int p0), .val (.int p1), .unset, .unset, .unset, .unset, .unset, .unset, .unset, .unset, .unset, .unset, .unset, .unset, .unset, .unset] [(.long (2147483648 : Int64)), (.int (31 : Int32)), (.ref b1), (.ref b1)]))
  obtain ⟨T64, h64, X64, e64, W64, A64, st64⟩ := own_stJ XL63 hx hZ e62 A62 31 (by decide) (by decide) (g := (mkF m 221 #[.val (.int p0), .val (.int p1), .unset, .unset, .unset, .unset, .unset, .unset, .unset, .unset, .unset, .unset, .unset, .unset, .unset, .unset] [(.long (2147483648 : Int64)), (.int (31 : Int32)), (.ref b1), (.ref b1)])) rfl rfl (hb hby at_221)
  refine own_step st64 ?_
  have N64 := Fr.snoc X64 NL63 gn_b1
  have Z64 : n0 ≤ h64.size := by rw [W64.size]; exact Z62
  obtain ⟨LL65, XL65, NL65⟩ : ∃ LL, Stand p l e room_1 s m #[(.int p0), (.int p1)] below meth c T64 LL 1 32 ∧ Fr n0 LL := ⟨_, X64, N64⟩
  show own_Ends p e below s _ _ _ (T64.setTop (mkF m 222 #[.val (.int p0), .val (.int p1), .unset, .unset, .unset, .unset, .unset, .unset, .unset, .unset, .unset, .unset, .unset, .unset, .unset, .unset] [(.ref b1)]))
  have At : own_AJ Z h64 b1 32 own_tab := own_congr A64 (by decide +kernel)
  show own_Ends p e below s _ _ _ (T64.setTop (mkF m 222 #[.val (.int p0), .val (.int p1), .unset, .unset, .unset, .unset, .unset, .unset, .unset, .unset, .unset, .unset, .unset, .unset, .unset, .unset] [(.ref b1)]))
  refine own_step (fun t k => XS.astoreN XL65.here hx rfl (hb hby at_222) rfl rfl (l' := #[.val (.int p0), .val (.int p1), .val (.ref b1), .unset, .unset, .unset, .unset, .unset, .unset, .unset, .unset, .unset, .unset, .unset, .unset, .unset]) rfl k) ?_
  show own_Ends p e below s _ _ _ (T64.setTop (mkF m 223 #[.val (.int p0), .val (.int p1), .val (.ref b1), .unset, .unset, .unset, .unset, .unset, .unset, .unset, .unset, .unset, .unset, .unset, .unset, .unset] []))
  refine own_step (fun t k => XS.iloadN XL65.here hx rfl (hb hby at_223) rfl k) ?_
  show own_Ends p e below s _ _ _ (T64.setTop (mkF m 224 #[.val (.int p0), .val (.int p1), .val (.ref b1), .unset, .unset, .unset, .unset, .unset, .unset, .unset, .unset, .unset, .unset, .unset, .unset, .unset] [(.int p0)]))
  refine own_step (fun t k => XL65.ldcInt hx hown (mvT hZ (hw _ (List.mem_of_getElem? (i := 33) rfl))) (g := (mkF m 224 #[.val (.int p0), .val (.int p1), .val (.ref b1), .unset, .unset, .unset, .unset, .unset, .unset, .unset, .unset, .unset, .unset, .unset, .unset, .unset] [(.int p0)])) rfl (hb hby at_224) t k) ?_
  show own_Ends p e below s _ _ _ (T64.setTop (mkF m 226 #[.val (.int p0), .val (.int p1), .val (.ref b1), .unset, .unset, .unset, .unset, .unset, .unset, .unset, .unset, .unset, .unset, .unset, .unset, .unset] [(.int (2147483647 : Int32)), (.int p0)]))
  refine own_step (fun t k => XS.iand XL65.here hx rfl (hb hby at_226) rfl k) ?_
  show own_Ends p e below s _ _ _ (T64.setTop (mkF m 227 #[.val (.int p0), .val (.int p1), .val (.ref b1), .unset, .unset, .unset, .unset, .unset, .unset, .unset, .unset, .unset, .unset, .unset, .unset, .unset] [(.int (p0 &&& (2147483647 : Int32)))]))
  refine own_step (fun t k => XS.bipush XL65.here hx rfl (hb hby at_227) k) ?_
  show own_Ends p e below s _ _ _ (T64.setTop (mkF m 229 #[.val (.int p0), .val (.int p1), .val (.ref b1), .unset, .unset, .unset, .unset, .unset, .unset, .unset, .unset, .unset, .unset, .unset, .unset, .unset] [(.int (31 : Int32)), (.int (p0 &&& (2147483647 : Int32)))]))
  refine own_step (fun t k => iremM XL65 hx rfl (hb hby at_229) rfl (by decide) k) ?_
  show own_Ends p e below s _ _ _ (T64.setTop (mkF m 230 #[.val (.int p0), .val (.int p1), .val (.ref b1), .unset, .unset, .unset, .unset, .unset, .unset, .unset, .unset, .unset, .unset, .unset, .unset, .unset] [(.int ((p0 &&& (2147483647 : Int32)) % (31 : Int32)))]))
  generalize hz230 : ((p0 &&& (2147483647 : Int32)) % (31 : Int32)) = z230
  have hr230 : 0 ≤ z230.toInt ∧ z230.toInt < 31 := hz230 ▸ own_rem p0
  obtain ⟨i0, hi0, hl0⟩ := own_nat hr230
  have hi1 := own_nat1 hi0 hl0
  clear hz230
  show own_Ends p e below s _ _ _ (T64.setTop (mkF m 230 #[.val (.int p0), .val (.int p1), .val (.ref b1), .unset, .unset, .unset, .unset, .unset, .unset, .unset, .unset, .unset, .unset, .unset, .unset, .unset] [(.int z230)]))
  refine own_step (fun t k => XS.istoreN XL65.here hx rfl (hb hby at_230) rfl (l' := #[.val (.int p0), .val (.int p1), .val (.ref b1), .val (.int z230), .unset, .unset, .unset, .unset, .unset, .unset, .unset, .unset, .unset, .unset, .unset, .unset]) rfl k) ?_
  show own_Ends p e below s _ _ _ (T64.setTop (mkF m 231 #[.val (.int p0), .val (.int p1), .val (.ref b1), .val (.int z230), .unset, .unset, .unset, .unset, .unset, .unset, .unset, .unset, .unset, .unset, .unset, .unset] []))
  refine own_step (fun t k => XS.iloadN XL65.here hx rfl (hb hby at_231) rfl k) ?_
  show own_Ends p e below s _ _ _ (T64.setTop (mkF m 232 #[.val (.int p0), .val (.int p1), .val (.ref b1), .val (.int z230), .unset, .unset, .unset, .unset, .unset, .unset, .unset, .unset, .unset, .unset, .unset, .unset] [(.int z230)]))
  refine own_step (fun t k => XS.iconst XL65.here hx rfl (hb hby at_232) k) ?_
  show own_Ends p e below s _ _ _ (T64.setTop (mkF m 233 #[.val (.int p0), .val (.int p1), .val (.ref b1), .val (.int z230), .unset, .unset, .unset, .unset, .unset, .unset, .unset, .unset, .unset, .unset, .unset, .unset] [(.int (1 : Int32)), (.int z230)]))
  refine own_step (fun t k => XS.iand XL65.here hx rfl (hb hby at_233) rfl k) ?_
  show own_Ends p e below s _ _ _ (T64.setTop (mkF m 234 #[.val (.int p0), .val (.int p1), .val (.ref b1), .val (.int z230), .unset, .unset, .unset, .unset, .unset, .unset, .unset, .unset, .unset, .unset, .unset, .unset] [(.int (z230 &&& (1 : Int32)))]))
  refine own_step (fun t k => XS.iconst XL65.here hx rfl (hb hby at_234) k) ?_
  show own_Ends p e below s _ _ _ (T64.setTop (mkF m 235 #[.val (.int p0), .val (.int p1), .val (.ref b1), .val (.int z230), .unset, .unset, .unset, .unset, .unset, .unset, .unset, .unset, .unset, .unset, .unset, .unset] [(.int (1 : Int32)), (.int (z230 &&& (1 : Int32)))]))
  by_cases hc235_66 : (z230 &&& (1 : Int32)) = (1 : Int32)
  · -- (z230 &&& (1 : Int32)) = (1 : Int32)
    refine own_step (fun t k => XS.icmpNo XL65.here hx rfl (hb hby at_235) rfl (teq hc235_66).2 k) ?_
    show own_Ends p e below s _ _ _ (T64.setTop (mkF m 238 #[.val (.int p0), .val (.int p1), .val (.ref b1), .val (.int z230), .unset, .unset, .unset, .unset, .unset, .unset, .unset, .unset, .unset, .unset, .unset, .unset] []))
    refine own_step (fun t k => XS.iconst XL65.here hx rfl (hb hby at_238) k) ?_
    show own_Ends p e below s _ _ _ (T64.setTop (mkF m 239 #[.val (.int p0), .val (.int p1), .val (.ref b1), .val (.int z230), .unset, .unset, .unset, .unset, .unset, .unset, .unset, .unset, .unset, .unset, .unset, .unset] [(.int (1 : Int32))]))
    refine own_step (fun t k => XS.goto XL65.here hx rfl (pc0 := 239) (pc' := 243) rfl (hb hby at_239) (by decide) (by decide) k) ?_
    show own_Ends p e below s _ _ _ (T64.setTop (mkF m 243 #[.val (.int p0), .val (.int p1), .val (.ref b1), .val (.int z230), .unset, .unset, .unset, .unset, .unset, .unset, .unset, .unset, .unset, .unset, .unset, .unset] [(.int (1 : Int32))]))
    refine own_step (fun t k => XS.istore XL65.here hx rfl (hb hby at_243) rfl (l' := #[.val (.int p0), .val (.int p1), .val (.ref b1), .val (.int z230), .val (.int (1 : Int32)), .unset, .unset, .unset, .unset, .unset, .unset, .unset, .unset, .unset, .unset, .unset]) rfl k) ?_
    show own_Ends p e below s _ _ _ (T64.setTop (mkF m 245 #[.val (.int p0), .val (.int p1), .val (.ref b1), .val (.int z230), .val (.int (1 : Int32)), .unset, .unset, .unset, .unset, .unset, .unset, .unset, .unset, .unset, .unset, .unset] []))
    refine own_step (fun t k => XS.aloadN XL65.here hx rfl (hb hby at_245) rfl rfl k) ?_
    show own_Ends p e below s _ _ _ (T64.setTop (mkF m 246 #[.val (.int p0), .val (.int p1), .val (.ref b1), .val (.int z230), .val (.int (1 : Int32)), .unset, .unset, .unset, .unset, .unset, .unset, .unset, .unset, .unset, .unset, .unset] [(.ref b1)]))
    refine own_step (fun t k => XS.iloadN XL65.here hx rfl (hb hby at_246) rfl k) ?_
    show own_Ends p e below s _ _ _ (T64.setTop (mkF m 247 #[.val (.int p0), .val (.int p1), .val (.ref b1), .val (.int z230), .val (.int (1 : Int32)), .unset, .unset, .unset, .unset, .unset, .unset, .unset, .unset, .unset, .unset, .unset] [(.int z230), (.ref b1)]))
    refine own_step (fun t k => own_ldJ XL65 hx hZ e64 At i0 hi0 (Nat.lt_succ_of_lt hl0) (g := (mkF m 247 #[.val (.int p0), .val (.int p1), .val (.ref b1), .val (.int z230), .val (.int (1 : Int32)), .unset, .unset, .unset, .unset, .unset, .unset, .unset, .unset, .unset, .unset, .unset] [(.int z230), (.ref b1)])) rfl rfl (hb hby at_247) t k) ?_
    show own_Ends p e below s _ _ _ (T64.setTop (mkF m 248 #[.val (.int p0), .val (.int p1), .val (.ref b1), .val (.int z230), .val (.int (1 : Int32)), .unset, .unset, .unset, .unset, .unset, .unset, .unset, .unset, .unset, .unset, .unset] [(.long (own_tab i0))]))
    generalize hlo : (own_tab i0) = lo
    show own_Ends p e below s _ _ _ (T64.setTop (mkF m 248 #[.val (.int p0), .val (.int p1), .val (.ref b1), .val (.int z230), .val (.int (1 : Int32)), .unset, .unset, .unset, .unset, .unset, .unset, .unset, .unset, .unset, .unset, .unset] [(.long lo)]))
    refine own_step (fun t k => XS.lstore XL65.here hx rfl (hb hby at_248) rfl (l' := #[.val (.int p0), .val (.int p1), .val (.ref b1), .val (.int z230), .val (.int (1 : Int32)), .val (.long lo), .second, .unset, .unset, .unset, .unset, .unset, .unset, .unset, .unset, .unset]) rfl k) ?_
    show own_Ends p e below s _ _ _ (T64.setTop (mkF m 250 #[.val (.int p0), .val (.int p1), .val (.ref b1), .val (.int z230), .val (.int (1 : Int32)), .val (.long lo), .second, .unset, .unset, .unset, .unset, .unset, .unset, .unset, .unset, .unset] []))
    refine own_step (fun t k => XS.aloadN XL65.here hx rfl (hb hby at_250) rfl rfl k) ?_
    show own_Ends p e below s _ _ _ (T64.setTop (mkF m 251 #[.val (.int p0), .val (.int p1), .val (.ref b1), .val (.int z230), .val (.int (1 : Int32)), .val (.long lo), .second, .unset, .unset, .unset, .unset, .unset, .unset, .unset, .unset, .unset] [(.ref b1)]))
    refine own_step (fun t k => XS.iloadN XL65.here hx rfl (hb hby at_251) rfl k) ?_
    show own_Ends p e below s _ _ _ (T64.setTop (mkF m 252 #[.val (.int p0), .val (.int p1), .val (.ref b1), .val (.int z230), .val (.int (1 : Int32)), .val (.long lo), .second, .unset, .unset, .unset, .unset, .unset, .unset, .unset, .unset, .unset] [(.int z230), (.ref b1)]))
    refine own_step (fun t k => XS.iconst XL65.here hx rfl (hb hby at_252) k) ?_
    show own_Ends p e below s _ _ _ (T64.setTop (mkF m 253 #[.val (.int p0), .val (.int p1), .val (.ref b1), .val (.int z230), .val (.int (1 : Int32)), .val (.long lo), .second, .unset, .unset, .unset, .unset, .unset, .unset, .unset, .unset, .unset] [(.int (1 : Int32)), (.int z230), (.ref b1)]))
    refine own_step (fun t k => XS.iadd XL65.here hx rfl (hb hby at_253) rfl k) ?_
    show own_Ends p e below s _ _ _ (T64.setTop (mkF m 254 #[.val (.int p0), .val (.int p1), .val (.ref b1), .val (.int z230), .val (.int (1 : Int32)), .val (.long lo), .second, .unset, .unset, .unset, .unset, .unset, .unset, .unset, .unset, .unset] [(.int (z230 + (1 : Int32))), (.ref b1)]))
    refine own_step (fun t k => own_ldJ XL65 hx hZ e64 At (i0 + 1) hi1 (Nat.succ_lt_succ hl0) (g := (mkF m 254 #[.val (.int p0), .val (.int p1), .val (.ref b1), .val (.int z230), .val (.int (1 : Int32)), .val (.long lo), .second, .unset, .unset, .unset, .unset, .unset, .unset, .unset, .unset, .unset] [(.int (z230 + (1 : Int32))), (.ref b1)])) rfl rfl (hb hby at_254) t k) ?_
    show own_Ends p e below s _ _ _ (T64.setTop (mkF m 255 #[.val (.int p0), .val (.int p1), .val (.ref b1), .val (.int z230), .val (.int (1 : Int32)), .val (.long lo), .second, .unset, .unset, .unset, .unset, .unset, .unset, .unset, .unset, .unset] [(.long (own_tab (i0 + 1)))]))
    refine own_step (fun t k => XS.lconst XL65.here hx rfl (hb hby at_255) k) ?_
    show own_Ends p e below s _ _ _ (T64.setTop (mkF m 256 #[.val (.int p0), .val (.int p1), .val (.ref b1), .val (.int z230), .val (.int (1 : Int32)), .val (.long lo), .second, .unset, .unset, .unset, .unset, .unset, .unset, .unset, .unset, .unset] [(.long (1 : Int64)), (.long (own_tab (i0 + 1)))]))
    refine own_step (fun t k => XS.lsub XL65.here hx rfl (hb hby at_256) rfl k) ?_
    show own_Ends p e below s _ _ _ (T64.setTop (mkF m 257 #[.val (.int p0), .val (.int p1), .val (.ref b1), .val (.int z230), .val (.int (1 : Int32)), .val (.long lo), .second, .unset, .unset, .unset, .unset, .unset, .unset, .unset, .unset, .unset] [(.long ((own_tab (i0 + 1)) - (1 : Int64)))]))
    generalize hhv : ((own_tab (i0 + 1)) - (1 : Int64)) = hv
    show own_Ends p e below s _ _ _ (T64.setTop (mkF m 257 #[.val (.int p0), .val (.int p1), .val (.ref b1), .val (.int z230), .val (.int (1 : Int32)), .val (.long lo), .second, .unset, .unset, .unset, .unset, .unset, .unset, .unset, .unset, .unset] [(.long hv)]))
    refine own_step (fun t k => XS.lstore XL65.here hx rfl (hb hby at_257) rfl (l' := #[.val (.int p0), .val (.int p1), .val (.ref b1), .val (.int z230), .val (.int (1 : Int32)), .val (.long lo), .second, .val (.long hv), .second, .unset, .unset, .unset, .unset, .unset, .unset, .unset]) rfl k) ?_
    show own_Ends p e below s _ _ _ (T64.setTop (mkF m 259 #[.val (.int p0), .val (.int p1), .val (.ref b1), .val (.int z230), .val (.int (1 : Int32)), .val (.long lo), .second, .val (.long hv), .second, .unset, .unset, .unset, .unset, .unset, .unset, .unset] []))
    refine own_step (fun t k => XS.aloadN XL65.here hx rfl (hb hby at_259) rfl rfl k) ?_
    show own_Ends p e below s _ _ _ (T64.setTop (mkF m 260 #[.val (.int p0), .val (.int p1), .val (.ref b1), .val (.int z230), .val (.int (1 : Int32)), .val (.long lo), .second, .val (.long hv), .second, .unset, .unset, .unset, .unset, .unset, .unset, .unset] [(.ref b1)]))
    refine own_step (fun t k => XS.iloadN XL65.here hx rfl (hb hby at_260) rfl k) ?_
    show own_Ends p e below s _ _ _ (T64.setTop (mkF m 261 #[.val (.int p0), .val (.int p1), .val (.ref b1), .val (.int z230), .val (.int (1 : Int32)), .val (.long lo), .second, .val (.long hv), .second, .unset, .unset, .unset, .unset, .unset, .unset, .unset] [(.int z230), (.ref b1)]))
    refine own_step (fun t k => XS.iconst XL65.here hx rfl (hb hby at_261) k) ?_
    show own_Ends p e below s _ _ _ (T64.setTop (mkF m 262 #[.val (.int p0), .val (.int p1), .val (.ref b1), .val (.int z230), .val (.int (1 : Int32)), .val (.long lo), .second, .val (.long hv), .second, .unset, .unset, .unset, .unset, .unset, .unset, .unset] [(.int (1 : Int32)), (.int z230), (.ref b1)]))
    refine own_step (fun t k => XS.iadd XL65.here hx rfl (hb hby at_262) rfl k) ?_
    show own_Ends p e below s _ _ _ (T64.setTop (mkF m 263 #[.val (.int p0), .val (.int p1), .val (.ref b1), .val (.int z230), .val (.int (1 : Int32)), .val (.long lo), .second, .val (.long hv), .second, .unset, .unset, .unset, .unset, .unset, .unset, .unset] [(.int (z230 + (1 : Int32))), (.ref b1)]))
    refine own_step (fun t k => own_ldJ XL65 hx hZ e64 At (i0 + 1) hi1 (Nat.succ_lt_succ hl0) (g := (mkF m 263 #[.val (.int p0), .val (.int p1), .val (.ref b1), .val (.int z230), .val (.int (1 : Int32)), .val (.long lo), .second, .val (.long hv), .second, .unset, .unset, .unset, .unset, .unset, .unset, .unset] [(.int (z230 + (1 : Int32))), (.ref b1)])) rfl rfl (hb hby at_263) t k) ?_
    show own_Ends p e below s _ _ _ (T64.setTop (mkF m 264 #[.val (.int p0), .val (.int p1), .val (.ref b1), .val (.int z230), .val (.int (1 : Int32)), .val (.long lo), .second, .val (.long hv), .second, .unset, .unset, .unset, .unset, .unset, .unset, .unset] [(.long (own_tab (i0 + 1)))]))
    refine own_step (fun t k => XS.aloadN XL65.here hx rfl (hb hby at_264) rfl rfl k) ?_
    show own_Ends p e below s _ _ _ (T64.setTop (mkF m 265 #[.val (.int p0), .val (.int p1), .val (.ref b1), .val (.int z230), .val (.int (1 : Int32)), .val (.long lo), .second, .val (.long hv), .second, .unset, .unset, .unset, .unset, .unset, .unset, .unset] [(.ref b1), (.long (own_tab (i0 + 1)))]))
    refine own_step (fun t k => XS.iloadN XL65.here hx rfl (hb hby at_265) rfl k) ?_
    show own_Ends p e below s _ _ _ (T64.setTop (mkF m 266 #[.val (.int p0), .val (.int p1), .val (.ref b1), .val (.int z230), .val (.int (1 : Int32)), .val (.long lo), .second, .val (.long hv), .second, .unset, .unset, .unset, .unset, .unset, .unset, .unset] [(.int z230), (.ref b1), (.long (own_tab (i0 + 1)))]))
    refine own_step (fun t k => own_ldJ XL65 hx hZ e64 At i0 hi0 (Nat.lt_succ_of_lt hl0) (g := (mkF m 266 #[.val (.int p0), .val (.int p1), .val (.ref b1), .val (.int z230), .val (.int (1 : Int32)), .val (.long lo), .second, .val (.long hv), .second, .unset, .unset, .unset, .unset, .unset, .unset, .unset] [(.int z230), (.ref b1), (.long (own_tab (i0 + 1)))])) rfl rfl (hb hby at_266) t k) ?_
    show own_Ends p e below s _ _ _ (T64.setTop (mkF m 267 #[.val (.int p0), .val (.int p1), .val (.ref b1), .val (.int z230), .val (.int (1 : Int32)), .val (.long lo), .second, .val (.long hv), .second, .unset, .unset, .unset, .unset, .unset, .unset, .unset] [(.long (own_tab i0)), (.long (own_tab (i0 + 1)))]))
    refine own_step (fun t k => XS.lsub XL65.here hx rfl (hb hby at_267) rfl k) ?_
    show own_Ends p e below s _ _ _ (T64.setTop (mkF m 268 #[.val (.int p0), .val (.int p1), .val (.ref b1), .val (.int z230), .val (.int (1 : Int32)), .val (.long lo), .second, .val (.long hv), .second, .unset, .unset, .unset, .unset, .unset, .unset, .unset] [(.long ((own_tab (i0 + 1)) - (own_tab i0)))]))
    generalize hln : ((own_tab (i0 + 1)) - (own_tab i0)) = ln
    show own_Ends p e below s _ _ _ (T64.setTop (mkF m 268 #[.val (.int p0), .val (.int p1), .val (.ref b1), .val (.int z230), .val (.int (1 : Int32)), .val (.long lo), .second, .val (.long hv), .second, .unset, .unset, .unset, .unset, .unset, .unset, .unset] [(.long ln)]))
    refine own_step (fun t k => XS.lstore XL65.here hx rfl (hb hby at_268) rfl (l' := #[.val (.int p0), .val (.int p1), .val (.ref b1), .val (.int z230), .val (.int (1 : Int32)), .val (.long lo), .second, .val (.long hv), .second, .val (.long ln), .second, .unset, .unset, .unset, .unset, .unset]) rfl k) ?_
    show own_Ends p e below s _ _ _ (T64.setTop (mkF m 270 #[.val (.int p0), .val (.int p1), .val (.ref b1), .val (.int z230), .val (.int (1 : Int32)), .val (.long lo), .second, .val (.long hv), .second, .val (.long ln), .second, .unset, .unset, .unset, .unset, .unset] []))
    refine own_step (fun t k => XS.lload XL65.here hx rfl (hb hby at_270) rfl k) ?_
    show own_Ends p e below s _ _ _ (T64.setTop (mkF m 272 #[.val (.int p0), .val (.int p1), .val (.ref b1), .val (.int z230), .val (.int (1 : Int32)), .val (.long lo), .second, .val (.long hv), .second, .val (.long ln), .second, .unset, .unset, .unset, .unset, .unset] [(.long lo)]))
    refine own_step (fun t k => XS.iloadN XL65.here hx rfl (hb hby at_272) rfl k) ?_
    show own_Ends p e below s _ _ _ (T64.setTop (mkF m 273 #[.val (.int p0), .val (.int p1), .val (.ref b1), .val (.int z230), .val (.int (1 : Int32)), .val (.long lo), .second, .val (.long hv), .second, .val (.long ln), .second, .unset, .unset, .unset, .unset, .unset] [(.int p1), (.long lo)]))
    refine own_step (fun t k => XS.i2l XL65.here hx rfl (hb hby at_273) rfl k) ?_
    show own_Ends p e below s _ _ _ (T64.setTop (mkF m 274 #[.val (.int p0), .val (.int p1), .val (.ref b1), .val (.int z230), .val (.int (1 : Int32)), .val (.long lo), .second, .val (.long hv), .second, .val (.long ln), .second, .unset, .unset, .unset, .unset, .unset] [(.long (p1.toInt64)), (.long lo)]))
    refine own_step (fun t k => XL65.ldc2Long hx hown (mvT hZ (hw _ (List.mem_of_getElem? (i := 34) rfl))) (g := (mkF m 274 #[.val (.int p0), .val (.int p1), .val (.ref b1), .val (.int z230), .val (.int (1 : Int32)), .val (.long lo), .second, .val (.long hv), .second, .val (.long ln), .second, .unset, .unset, .unset, .unset, .unset] [(.long (p1.toInt64)), (.long lo)])) rfl (hb hby at_274) t k) ?_
    show own_Ends p e below s _ _ _ (T64.setTop (mkF m 277 #[.val (.int p0), .val (.int p1), .val (.ref b1), .val (.int z230), .val (.int (1 : Int32)), .val (.long lo), .second, .val (.long hv), .second, .val (.long ln), .second, .unset, .unset, .unset, .unset, .unset] [(.long (4294967295 : Int64)), (.long (p1.toInt64)), (.long lo)]))
    refine own_step (fun t k => XS.land XL65.here hx rfl (hb hby at_277) rfl k) ?_
    show own_Ends p e below s _ _ _ (T64.setTop (mkF m 278 #[.val (.int p0), .val (.int p1), .val (.ref b1), .val (.int z230), .val (.int (1 : Int32)), .val (.long lo), .second, .val (.long hv), .second, .val (.long ln), .second, .unset, .unset, .unset, .unset, .unset] [(.long ((p1.toInt64) &&& (4294967295 : Int64))), (.long lo)]))
    refine own_step (fun t k => XS.lload XL65.here hx rfl (hb hby at_278) rfl k) ?_
    show own_Ends p e below s _ _ _ (T64.setTop (mkF m 280 #[.val (.int p0), .val (.int p1), .val (.ref b1), .val (.int z230), .val (.int (1 : Int32)), .val (.long lo), .second, .val (.long hv), .second, .val (.long ln), .second, .unset, .unset, .unset, .unset, .unset] [(.long ln), (.long ((p1.toInt64) &&& (4294967295 : Int64))), (.long lo)]))
    refine own_step (fun t k => own_lrem XL65 hx rfl (hb hby at_280) rfl (hln ▸ own_gap hl0) k) ?_
    show own_Ends p e below s _ _ _ (T64.setTop (mkF m 281 #[.val (.int p0), .val (.int p1), .val (.ref b1), .val (.int z230), .val (.int (1 : Int32)), .val (.long lo), .second, .val (.long hv), .second, .val (.long ln), .second, .unset, .unset, .unset, .unset, .unset] [(.long (((p1.toInt64) &&& (4294967295 : Int64)) % ln)), (.long lo)]))
    refine own_step (fun t k => XS.ladd XL65.here hx rfl (hb hby at_281) rfl k) ?_
    show own_Ends p e below s _ _ _ (T64.setTop (mkF m 282 #[.val (.int p0), .val (.int p1), .val (.ref b1), .val (.int z230), .val (.int (1 : Int32)), .val (.long lo), .second, .val (.long hv), .second, .val (.long ln), .second, .unset, .unset, .unset, .unset, .unset] [(.long (lo + (((p1.toInt64) &&& (4294967295 : Int64)) % ln)))]))
    generalize hpt : (lo + (((p1.toInt64) &&& (4294967295 : Int64)) % ln)) = pt
    show own_Ends p e below s _ _ _ (T64.setTop (mkF m 282 #[.val (.int p0), .val (.int p1), .val (.ref b1), .val (.int z230), .val (.int (1 : Int32)), .val (.long lo), .second, .val (.long hv), .second, .val (.long ln), .second, .unset, .unset, .unset, .unset, .unset] [(.long pt)]))
    refine own_step (fun t k => XS.lstore XL65.here hx rfl (hb hby at_282) rfl (l' := #[.val (.int p0), .val (.int p1), .val (.ref b1), .val (.int z230), .val (.int (1 : Int32)), .val (.long lo), .second, .val (.long hv), .second, .val (.long ln), .second, .val (.long pt), .second, .unset, .unset, .unset]) rfl k) ?_
    show own_Ends p e below s _ _ _ (T64.setTop (mkF m 284 #[.val (.int p0), .val (.int p1), .val (.ref b1), .val (.int z230), .val (.int (1 : Int32)), .val (.long lo), .second, .val (.long hv), .second, .val (.long ln), .second, .val (.long pt), .second, .unset, .unset, .unset] []))
    refine own_step (fun t k => XS.lload XL65.here hx rfl (hb hby at_284) rfl k) ?_
    show own_Ends p e below s _ _ _ (T64.setTop (mkF m 286 #[.val (.int p0), .val (.int p1), .val (.ref b1), .val (.int z230), .val (.int (1 : Int32)), .val (.long lo), .second, .val (.long hv), .second, .val (.long ln), .second, .val (.long pt), .second, .unset, .unset, .unset] [(.long lo)]))
    refine own_step (fun t k => XS.l2i XL65.here hx rfl (hb hby at_286) rfl k) ?_
    show own_Ends p e below s _ _ _ (T64.setTop (mkF m 287 #[.val (.int p0), .val (.int p1), .val (.ref b1), .val (.int z230), .val (.int (1 : Int32)), .val (.long lo), .second, .val (.long hv), .second, .val (.long ln), .second, .val (.long pt), .second, .unset, .unset, .unset] [(.int (lo.toInt32))]))
    generalize hx287 : (lo.toInt32) = x287
    show own_Ends p e below s _ _ _ (T64.setTop (mkF m 287 #[.val (.int p0), .val (.int p1), .val (.ref b1), .val (.int z230), .val (.int (1 : Int32)), .val (.long lo), .second, .val (.long hv), .second, .val (.long ln), .second, .val (.long pt), .second, .unset, .unset, .unset] [(.int x287)]))
    obtain ⟨_, _, ⟨T67, L67, k67, n67⟩, -, X67, ⟨Lc67, hQ67, l67, y67, z67⟩, st67⟩ := Jvm.LawKit.callS XL65 hx (y := (⟨"com/example/shuttlecourse/shuttlecourse/model/XmlChars", "isNameStart", "(I)Z"⟩ : MethodName)) hown (mvT hZ (hw _ (List.mem_of_getElem? (i := 35) rfl))) (mvT hZ (hw _ (List.mem_of_getElem? (i := 36) rfl))) (mvT hZ (hw _ (List.mem_of_getElem? (i := 37) rfl))) (mvT hZ (hw _ (List.mem_of_getElem? (i := 38) rfl))) (by decide) (backOf (W := 0) (rm1 l Z a0 hw [] x287  h64 n0  ) hZ (hw _ (List.mem_of_getElem? (i := 38) rfl)) (hw _ (List.mem_of_getElem? (i := 37) rfl)) (by decide) (by decide)) (g := (mkF m 287 #[.val (.int p0), .val (.int p1), .val (.ref b1), .val (.int z230), .val (.int (1 : Int32)), .val (.long lo), .second, .val (.long hv), .second, .val (.long ln), .second, .val (.long pt), .second, .unset, .unset, .unset] [(.int x287)])) rfl (by rw [hml]; rfl) (argsL := [(.int x287)]) (rest := []) (lenOf pd0_0 rfl) rfl (by show 2 * 0 + _ ≤ _; exact Nat.le_of_eq rfl) (hb hby at_287) (fun _ _ => ⟨rfl, e64, (by decide : 1 + 0 ≤ _), (by decide : 32 + 0 ≤ _)⟩)
    dsimp only [Pt.U, Pt.locs, Pt.cells, Pt.slots] at X67 l67 y67 z67 st67 hQ67
    subst l67 y67 z67
    obtain ⟨rfl, N67q, e67⟩ := hQ67
    have N67 := Fr.app NL65 N67q
    refine own_step st67 ?_
    obtain ⟨LL68, XL68, NL68⟩ : ∃ LL, Stand p l e room_1 s m #[(.int p0), (.int p1)] below meth c T67 LL 1 32 ∧ Fr n0 LL := ⟨_, X67, N67⟩
    show own_Ends p e below s _ _ _ (T67.setTop (mkF m 290 #[.val (.int p0), .val (.int p1), .val (.ref b1), .val (.int z230), .val (.int (1 : Int32)), .val (.long lo), .second, .val (.long hv), .second, .val (.long ln), .second, .val (.long pt), .second, .unset, .unset, .unset] [(.int (f1_0 x287))]))
    refine own_step (fun t k => XS.iload XL68.here hx rfl (hb hby at_290) rfl k) ?_
    show own_Ends p e below s _ _ _ (T67.setTop (mkF m 292 #[.val (.int p0), .val (.int p1), .val (.ref b1), .val (.int z230), .val (.int (1 : Int32)), .val (.long lo), .second, .val (.long hv), .second, .val (.long ln), .second, .val (.long pt), .second, .unset, .unset, .unset] [(.int (1 : Int32)), (.int (f1_0 x287))]))
    refine own_step (fun t k => XS.icmpNo XL68.here hx rfl (hb hby at_292) rfl (teq (show (f1_0 x287) = (1 : Int32) from by rw [← hx287, ← hlo]; exact own_lo hi0 hl0 hc235_66)).2 k) ?_
    show own_Ends p e below s _ _ _ (T67.setTop (mkF m 295 #[.val (.int p0), .val (.int p1), .val (.ref b1), .val (.int z230), .val (.int (1 : Int32)), .val (.long lo), .second, .val (.long hv), .second, .val (.long ln), .second, .val (.long pt), .second, .unset, .unset, .unset] []))
    refine own_step (fun t k => XS.iconst XL68.here hx rfl (hb hby at_295) k) ?_
    show own_Ends p e below s _ _ _ (T67.setTop (mkF m 296 #[.val (.int p0), .val (.int p1), .val (.ref b1), .val (.int z230), .val (.int (1 : Int32)), .val (.long lo), .second, .val (.long hv), .second, .val (.long ln), .second, .val (.long pt), .second, .unset, .unset, .unset] [(.int (1 : Int32))]))
    refine own_step (fun t k => XS.goto XL68.here hx rfl (pc0 := 296) (pc' := 300) rfl (hb hby at_296) (by decide) (by decide) k) ?_
    show own_Ends p e below s _ _ _ (T67.setTop (mkF m 300 #[.val (.int p0), .val (.int p1), .val (.ref b1), .val (.int z230), .val (.int (1 : Int32)), .val (.long lo), .second, .val (.long hv), .second, .val (.long ln), .second, .val (.long pt), .second, .unset, .unset, .unset] [(.int (1 : Int32))]))
    refine own_step (fun t k => XS.istore XL68.here hx rfl (hb hby at_300) rfl (l' := #[.val (.int p0), .val (.int p1), .val (.ref b1), .val (.int z230), .val (.int (1 : Int32)), .val (.long lo), .second, .val (.long hv), .second, .val (.long ln), .second, .val (.long pt), .second, .val (.int (1 : Int32)), .unset, .unset]) rfl k) ?_
    show own_Ends p e below s _ _ _ (T67.setTop (mkF m 302 #[.val (.int p0), .val (.int p1), .val (.ref b1), .val (.int z230), .val (.int (1 : Int32)), .val (.long lo), .second, .val (.long hv), .second, .val (.long ln), .second, .val (.long pt), .second, .val (.int (1 : Int32)), .unset, .unset] []))
    refine own_step (fun t k => XS.lload XL68.here hx rfl (hb hby at_302) rfl k) ?_
    show own_Ends p e below s _ _ _ (T67.setTop (mkF m 304 #[.val (.int p0), .val (.int p1), .val (.ref b1), .val (.int z230), .val (.int (1 : Int32)), .val (.long lo), .second, .val (.long hv), .second, .val (.long ln), .second, .val (.long pt), .second, .val (.int (1 : Int32)), .unset, .unset] [(.long hv)]))
    refine own_step (fun t k => XS.l2i XL68.here hx rfl (hb hby at_304) rfl k) ?_
    show own_Ends p e below s _ _ _ (T67.setTop (mkF m 305 #[.val (.int p0), .val (.int p1), .val (.ref b1), .val (.int z230), .val (.int (1 : Int32)), .val (.long lo), .second, .val (.long hv), .second, .val (.long ln), .second, .val (.long pt), .second, .val (.int (1 : Int32)), .unset, .unset] [(.int (hv.toInt32))]))
    generalize hx305 : (hv.toInt32) = x305
    show own_Ends p e below s _ _ _ (T67.setTop (mkF m 305 #[.val (.int p0), .val (.int p1), .val (.ref b1), .val (.int z230), .val (.int (1 : Int32)), .val (.long lo), .second, .val (.long hv), .second, .val (.long ln), .second, .val (.long pt), .second, .val (.int (1 : Int32)), .unset, .unset] [(.int x305)]))
    obtain ⟨_, _, ⟨T69, L69, k69, n69⟩, -, X69, ⟨Lc69, hQ69, l69, y69, z69⟩, st69⟩ := Jvm.LawKit.callS XL68 hx (y := (⟨"com/example/shuttlecourse/shuttlecourse/model/XmlChars", "isNameStart", "(I)Z"⟩ : MethodName)) hown (mvT hZ (hw _ (List.mem_of_getElem? (i := 35) rfl))) (mvT hZ (hw _ (List.mem_of_getElem? (i := 36) rfl))) (mvT hZ (hw _ (List.mem_of_getElem? (i := 37) rfl))) (mvT hZ (hw _ (List.mem_of_getElem? (i := 38) rfl))) (by decide) (backOf (W := 0) (rm1 l Z a0 hw [] x305  h64 n0  ) hZ (hw _ (List.mem_of_getElem? (i := 38) rfl)) (hw _ (List.mem_of_getElem? (i := 37) rfl)) (by decide) (by decide)) (g := (mkF m 305 #[.val (.int p0), .val (.int p1), .val (.ref b1), .val (.int z230), .val (.int (1 : Int32)), .val (.long lo), .second, .val (.long hv), .second, .val (.long ln), .second, .val (.long pt), .second, .val (.int (1 : Int32)), .unset, .unset] [(.int x305)])) rfl (by rw [hml]; rfl) (argsL := [(.int x305)]) (rest := []) (lenOf pd0_0 rfl) rfl (by show 2 * 0 + _ ≤ _; exact Nat.le_of_eq rfl) (hb hby at_305) (fun _ _ => ⟨rfl, e67, (by decide : 1 + 0 ≤ _), (by decide : 32 + 0 ≤ _)⟩)
    dsimp only [Pt.U, Pt.locs, Pt.cells, Pt.slots] at X69 l69 y69 z69 st69 hQ69
    subst l69 y69 z69
    obtain ⟨rfl, N69q, e69⟩ := hQ69
    have N69 := Fr.app NL68 N69q
    refine own_step st69 ?_
    obtain ⟨LL70, XL70, NL70⟩ : ∃ LL, Stand p l e room_1 s m #[(.int p0), (.int p1)] below meth c T69 LL 1 32 ∧ Fr n0 LL := ⟨_, X69, N69⟩
    show own_Ends p e below s _ _ _ (T69.setTop (mkF m 308 #[.val (.int p0), .val (.int p1), .val (.ref b1), .val (.int z230), .val (.int (1 : Int32)), .val (.long lo), .second, .val (.long hv), .second, .val (.long ln), .second, .val (.long pt), .second, .val (.int (1 : Int32)), .unset, .unset] [(.int (f1_0 x305))]))
    refine own_step (fun t k => XS.iload XL70.here hx rfl (hb hby at_308) rfl k) ?_
    show own_Ends p e below s _ _ _ (T69.setTop (mkF m 310 #[.val (.int p0), .val (.int p1), .val (.ref b1), .val (.int z230), .val (.int (1 : Int32)), .val (.long lo), .second, .val (.long hv), .second, .val (.long ln), .second, .val (.long pt), .second, .val (.int (1 : Int32)), .unset, .unset] [(.int (1 : Int32)), (.int (f1_0 x305))]))
    refine own_step (fun t k => XS.icmpNo XL70.here hx rfl (hb hby at_310) rfl (teq (show (f1_0 x305) = (1 : Int32) from by rw [← hx305, ← hhv]; exact own_hi hi0 hl0 hc235_66)).2 k) ?_
    show own_Ends p e below s _ _ _ (T69.setTop (mkF m 313 #[.val (.int p0), .val (.int p1), .val (.ref b1), .val (.int z230), .val (.int (1 : Int32)), .val (.long lo), .second, .val (.long hv), .second, .val (.long ln), .second, .val (.long pt), .second, .val (.int (1 : Int32)), .unset, .unset] []))
    refine own_step (fun t k => XS.iconst XL70.here hx rfl (hb hby at_313) k) ?_
    show own_Ends p e below s _ _ _ (T69.setTop (mkF m 314 #[.val (.int p0), .val (.int p1), .val (.ref b1), .val (.int z230), .val (.int (1 : Int32)), .val (.long lo), .second, .val (.long hv), .second, .val (.long ln), .second, .val (.long pt), .second, .val (.int (1 : Int32)), .unset, .unset] [(.int (1 : Int32))]))
    refine own_step (fun t k => XS.goto XL70.here hx rfl (pc0 := 314) (pc' := 318) rfl (hb hby at_314) (by decide) (by decide) k) ?_
    show own_Ends p e below s _ _ _ (T69.setTop (mkF m 318 #[.val (.int p0), .val (.int p1), .val (.ref b1), .val (.int z230), .val (.int (1 : Int32)), .val (.long lo), .second, .val (.long hv), .second, .val (.long ln), .second, .val (.long pt), .second, .val (.int (1 : Int32)), .unset, .unset] [(.int (1 : Int32))]))
    refine own_step (fun t k => XS.istore XL70.here hx rfl (hb hby at_318) rfl (l' := #[.val (.int p0), .val (.int p1), .val (.ref b1), .val (.int z230), .val (.int (1 : Int32)), .val (.long lo), .second, .val (.long hv), .second, .val (.long ln), .second, .val (.long pt), .second, .val (.int (1 : Int32)), .val (.int (1 : Int32)), .unset]) rfl k) ?_
    show own_Ends p e below s _ _ _ (T69.setTop (mkF m 320 #[.val (.int p0), .val (.int p1), .val (.ref b1), .val (.int z230), .val (.int (1 : Int32)), .val (.long lo), .second, .val (.long hv), .second, .val (.long ln), .second, .val (.long pt), .second, .val (.int (1 : Int32)), .val (.int (1 : Int32)), .unset] []))
    refine own_step (fun t k => XS.lload XL70.here hx rfl (hb hby at_320) rfl k) ?_
    show own_Ends p e below s _ _ _ (T69.setTop (mkF m 322 #[.val (.int p0), .val (.int p1), .val (.ref b1), .val (.int z230), .val (.int (1 : Int32)), .val (.long lo), .second, .val (.long hv), .second, .val (.long ln), .second, .val (.long pt), .second, .val (.int (1 : Int32)), .val (.int (1 : Int32)), .unset] [(.long pt)]))
    refine own_step (fun t k => XS.l2i XL70.here hx rfl (hb hby at_322) rfl k) ?_
    show own_Ends p e below s _ _ _ (T69.setTop (mkF m 323 #[.val (.int p0), .val (.int p1), .val (.ref b1), .val (.int z230), .val (.int (1 : Int32)), .val (.long lo), .second, .val (.long hv), .second, .val (.long ln), .second, .val (.long pt), .second, .val (.int (1 : Int32)), .val (.int (1 : Int32)), .unset] [(.int (pt.toInt32))]))
    generalize hx323 : (pt.toInt32) = x323
    show own_Ends p e below s _ _ _ (T69.setTop (mkF m 323 #[.val (.int p0), .val (.int p1), .val (.ref b1), .val (.int z230), .val (.int (1 : Int32)), .val (.long lo), .second, .val (.long hv), .second, .val (.long ln), .second, .val (.long pt), .second, .val (.int (1 : Int32)), .val (.int (1 : Int32)), .unset] [(.int x323)]))
    obtain ⟨_, _, ⟨T71, L71, k71, n71⟩, -, X71, ⟨Lc71, hQ71, l71, y71, z71⟩, st71⟩ := Jvm.LawKit.callS XL70 hx (y := (⟨"com/example/shuttlecourse/shuttlecourse/model/XmlChars", "isNameStart", "(I)Z"⟩ : MethodName)) hown (mvT hZ (hw _ (List.mem_of_getElem? (i := 35) rfl))) (mvT hZ (hw _ (List.mem_of_getElem? (i := 36) rfl))) (mvT hZ (hw _ (List.mem_of_getElem? (i := 37) rfl))) (mvT hZ (hw _ (List.mem_of_getElem? (i := 38) rfl))) (by decide) (backOf (W := 0) (rm1 l Z a0 hw [] x323  h64 n0  ) hZ (hw _ (List.mem_of_getElem? (i := 38) rfl)) (hw _ (List.mem_of_getElem? (i := 37) rfl)) (by decide) (by decide)) (g := (mkF m 323 #[.val (.int p0), .val (.int p1), .val (.ref b1), .val (.int z230), .val (.int (1 : Int32)), .val (.long lo), .second, .val (.long hv), .second, .val (.long ln), .second, .val (.long pt), .second, .val (.int (1 : Int32)), .val (.int (1 : Int32)), .unset] [(.int x323)])) rfl (by rw [hml]; rfl) (argsL := [(.int x323)]) (rest := []) (lenOf pd0_0 rfl) rfl (by show 2 * 0 + _ ≤ _; exact Nat.le_of_eq rfl) (hb hby at_323) (fun _ _ => ⟨rfl, e69, (by decide : 1 + 0 ≤ _), (by decide : 32 + 0 ≤ _)⟩)
    dsimp only [Pt.U, Pt.locs, Pt.cells, Pt.slots] at X71 l71 y71 z71 st71 hQ71
    subst l71 y71 z71
    obtain ⟨rfl, N71q, e71⟩ := hQ71
    have N71 := Fr.app NL70 N71q
    refine own_step st71 ?_
    obtain ⟨LL72, XL72, NL72⟩ : ∃ LL, Stand p l e room_1 s m #[(.int p0), (.int p1)] below meth c T71 LL 1 32 ∧ Fr n0 LL := ⟨_, X71, N71⟩
    show own_Ends p e below s _ _ _ (T71.setTop (mkF m 326 #[.val (.int p0), .val (.int p1), .val (.ref b1), .val (.int z230), .val (.int (1 : Int32)), .val (.long lo), .second, .val (.long hv), .second, .val (.long ln), .second, .val (.long pt), .second, .val (.int (1 : Int32)), .val (.int (1 : Int32)), .unset] [(.int (f1_0 x323))]))
    refine own_step (fun t k => XS.iload XL72.here hx rfl (hb hby at_326) rfl k) ?_
    show own_Ends p e below s _ _ _ (T71.setTop (mkF m 328 #[.val (.int p0), .val (.int p1), .val (.ref b1), .val (.int z230), .val (.int (1 : Int32)), .val (.long lo), .second, .val (.long hv), .second, .val (.long ln), .second, .val (.long pt), .second, .val (.int (1 : Int32)), .val (.int (1 : Int32)), .unset] [(.int (1 : Int32)), (.int (f1_0 x323))]))
    refine own_step (fun t k => XS.icmpNo XL72.here hx rfl (hb hby at_328) rfl (teq (show (f1_0 x323) = (1 : Int32) from by rw [← hx323, ← hpt, ← hln, ← hlo]; exact own_pt p1 hi0 hl0 hc235_66)).2 k) ?_
    show own_Ends p e below s _ _ _ (T71.setTop (mkF m 331 #[.val (.int p0), .val (.int p1), .val (.ref b1), .val (.int z230), .val (.int (1 : Int32)), .val (.long lo), .second, .val (.long hv), .second, .val (.long ln), .second, .val (.long pt), .second, .val (.int (1 : Int32)), .val (.int (1 : Int32)), .unset] []))
    refine own_step (fun t k => XS.iconst XL72.here hx rfl (hb hby at_331) k) ?_
    show own_Ends p e below s _ _ _ (T71.setTop (mkF m 332 #[.val (.int p0), .val (.int p1), .val (.ref b1), .val (.int z230), .val (.int (1 : Int32)), .val (.long lo), .second, .val (.long hv), .second, .val (.long ln), .second, .val (.long pt), .second, .val (.int (1 : Int32)), .val (.int (1 : Int32)), .unset] [(.int (1 : Int32))]))
    refine own_step (fun t k => XS.goto XL72.here hx rfl (pc0 := 332) (pc' := 336) rfl (hb hby at_332) (by decide) (by decide) k) ?_
    show own_Ends p e below s _ _ _ (T71.setTop (mkF m 336 #[.val (.int p0), .val (.int p1), .val (.ref b1), .val (.int z230), .val (.int (1 : Int32)), .val (.long lo), .second, .val (.long hv), .second, .val (.long ln), .second, .val (.long pt), .second, .val (.int (1 : Int32)), .val (.int (1 : Int32)), .unset] [(.int (1 : Int32))]))
    refine own_step (fun t k => XS.istore XL72.here hx rfl (hb hby at_336) rfl (l' := #[.val (.int p0), .val (.int p1), .val (.ref b1), .val (.int z230), .val (.int (1 : Int32)), .val (.long lo), .second, .val (.long hv), .second, .val (.long ln), .second, .val (.long pt), .second, .val (.int (1 : Int32)), .val (.int (1 : Int32)), .val (.int (1 : Int32))]) rfl k) ?_
    show own_Ends p e below s _ _ _ (T71.setTop (mkF m 338 #[.val (.int p0), .val (.int p1), .val (.ref b1), .val (.int z230), .val (.int (1 : Int32)), .val (.long lo), .second, .val (.long hv), .second, .val (.long ln), .second, .val (.long pt), .second, .val (.int (1 : Int32)), .val (.int (1 : Int32)), .val (.int (1 : Int32))] []))
    refine own_step (fun t k => XS.iload XL72.here hx rfl (hb hby at_338) rfl k) ?_
    show own_Ends p e below s _ _ _ (T71.setTop (mkF m 340 #[.val (.int p0), .val (.int p1), .val (.ref b1), .val (.int z230), .val (.int (1 : Int32)), .val (.long lo), .second, .val (.long hv), .second, .val (.long ln), .second, .val (.long pt), .second, .val (.int (1 : Int32)), .val (.int (1 : Int32)), .val (.int (1 : Int32))] [(.int (1 : Int32))]))
    refine own_step (fun t k => XS.ifNo XL72.here hx rfl (hb hby at_340) rfl ((if0 _ _).trans (feq (by decide : ¬ ((1 : Int32) = (0 : Int32)))).1) k) ?_
    show own_Ends p e below s _ _ _ (T71.setTop (mkF m 343 #[.val (.int p0), .val (.int p1), .val (.ref b1), .val (.int z230), .val (.int (1 : Int32)), .val (.long lo), .second, .val (.long hv), .second, .val (.long ln), .second, .val (.long pt), .second, .val (.int (1 : Int32)), .val (.int (1 : Int32)), .val (.int (1 : Int32))] []))
    refine own_step (fun t k => XS.iload XL72.here hx rfl (hb hby at_343) rfl k) ?_
    show own_Ends p e below s _ _ _ (T71.setTop (mkF m 345 #[.val (.int p0), .val (.int p1), .val (.ref b1), .val (.int z230), .val (.int (1 : Int32)), .val (.long lo), .second, .val (.long hv), .second, .val (.long ln), .second, .val (.long pt), .second, .val (.int (1 : Int32)), .val (.int (1 : Int32)), .val (.int (1 : Int32))] [(.int (1 : Int32))]))
    refine own_step (fun t k => XS.ifNo XL72.here hx rfl (hb hby at_345) rfl ((if0 _ _).trans (feq (by decide : ¬ ((1 : Int32) = (0 : Int32)))).1) k) ?_
    show own_Ends p e below s _ _ _ (T71.setTop (mkF m 348 #[.val (.int p0), .val (.int p1), .val (.ref b1), .val (.int z230), .val (.int (1 : Int32)), .val (.long lo), .second, .val (.long hv), .second, .val (.long ln), .second, .val (.long pt), .second, .val (.int (1 : Int32)), .val (.int (1 : Int32)), .val (.int (1 : Int32))] []))
    refine own_step (fun t k => XS.iload XL72.here hx rfl (hb hby at_348) rfl k) ?_
    show own_Ends p e below s _ _ _ (T71.setTop (mkF m 350 #[.val (.int p0), .val (.int p1), .val (.ref b1), .val (.int z230), .val (.int (1 : Int32)), .val (.long lo), .second, .val (.long hv), .second, .val (.long ln), .second, .val (.long pt), .second, .val (.int (1 : Int32)), .val (.int (1 : Int32)), .val (.int (1 : Int32))] [(.int (1 : Int32))]))
    refine own_step (fun t k => XS.ifNo XL72.here hx rfl (hb hby at_350) rfl ((if0 _ _).trans (feq (by decide : ¬ ((1 : Int32) = (0 : Int32)))).1) k) ?_
    show own_Ends p e below s _ _ _ (T71.setTop (mkF m 353 #[.val (.int p0), .val (.int p1), .val (.ref b1), .val (.int z230), .val (.int (1 : Int32)), .val (.long lo), .second, .val (.long hv), .second, .val (.long ln), .second, .val (.long pt), .second, .val (.int (1 : Int32)), .val (.int (1 : Int32)), .val (.int (1 : Int32))] []))
    refine own_step (fun t k => XS.iconst XL72.here hx rfl (hb hby at_353) k) ?_
    show own_Ends p e below s _ _ _ (T71.setTop (mkF m 354 #[.val (.int p0), .val (.int p1), .val (.ref b1), .val (.int z230), .val (.int (1 : Int32)), .val (.long lo), .second, .val (.long hv), .second, .val (.long ln), .second, .val (.long pt), .second, .val (.int (1 : Int32)), .val (.int (1 : Int32)), .val (.int (1 : Int32))] [(.int (1 : Int32))]))
    refine own_step (fun t k => XS.goto XL72.here hx rfl (pc0 := 354) (pc' := 358) rfl (hb hby at_354) (by decide) (by decide) k) ?_
    show own_Ends p e below s _ _ _ (T71.setTop (mkF m 358 #[.val (.int p0), .val (.int p1), .val (.ref b1), .val (.int z230), .val (.int (1 : Int32)), .val (.long lo), .second, .val (.long hv), .second, .val (.long ln), .second, .val (.long pt), .second, .val (.int (1 : Int32)), .val (.int (1 : Int32)), .val (.int (1 : Int32))] [(.int (1 : Int32))]))
    exact own_retN XL72 hx hlk (t := .boolean) hret (by simp) (hb hby at_358) (w := (1 : Int32)) (by decide) ⟨rfl, NL72⟩ (by decide) (by decide)
  · -- not (z230 &&& (1 : Int32)) = (1 : Int32)
    refine own_step (fun t k => XS.icmpYes XL65.here hx rfl (pc0 := 235) (pc' := 242) rfl (hb hby at_235) rfl (feq hc235_66).2 (by decide) (by decide) k) ?_
    show own_Ends p e below s _ _ _ (T64.setTop (mkF m 242 #[.val (.int p0), .val (.int p1), .val (.ref b1), .val (.int z230), .unset, .unset, .unset, .unset, .unset, .unset, .unset, .unset, .unset, .unset, .unset, .unset] []))
    refine own_step (fun t k => XS.iconst XL65.here hx rfl (hb hby at_242) k) ?_
    show own_Ends p e below s _ _ _ (T64.setTop (mkF m 243 #[.val (.int p0), .val (.int p1), .val (.ref b1), .val (.int z230), .unset, .unset, .unset, .unset, .unset, .unset, .unset, .unset, .unset, .unset, .unset, .unset] [(.int (0 : Int32))]))
    refine own_step (fun t k => XS.istore XL65.here hx rfl (hb hby at_243) rfl (l' := #[.val (.int p0), .val (.int p1), .val (.ref b1), .val (.int z230), .val (.int (0 : Int32)), .unset, .unset, .unset, .unset, .unset, .unset, .unset, .unset, .unset, .unset, .unset]) rfl k) ?_
    show own_Ends p e below s _ _ _ (T64.setTop (mkF m 245 #[.val (.int p0), .val (.int p1), .val (.ref b1), .val (.int z230), .val (.int (0 : Int32)), .unset, .unset, .unset, .unset, .unset, .unset, .unset, .unset, .unset, .unset, .unset] []))
    refine own_step (fun t k => XS.aloadN XL65.here hx rfl (hb hby at_245) rfl rfl k) ?_
    show own_Ends p e below s _ _ _ (T64.setTop (mkF m 246 #[.val (.int p0), .val (.int p1), .val (.ref b1), .val (.int z230), .val (.int (0 : Int32)), .unset, .unset, .unset, .unset, .unset, .unset, .unset, .unset, .unset, .unset, .unset] [(.ref b1)]))
    refine own_step (fun t k => XS.iloadN XL65.here hx rfl (hb hby at_246) rfl k) ?_
    show own_Ends p e below s _ _ _ (T64.setTop (mkF m 247 #[.val (.int p0), .val (.int p1), .val (.ref b1), .val (.int z230), .val (.int (0 : Int32)), .unset, .unset, .unset, .unset, .unset, .unset, .unset, .unset, .unset, .unset, .unset] [(.int z230), (.ref b1)]))
    refine own_step (fun t k => own_ldJ XL65 hx hZ e64 At i0 hi0 (Nat.lt_succ_of_lt hl0) (g := (mkF m 247 #[.val (.int p0), .val (.int p1), .val (.ref b1), .val (.int z230), .val (.int (0 : Int32)), .unset, .unset, .unset, .unset, .unset, .unset, .unset, .unset, .unset, .unset, .unset] [(.int z230), (.ref b1)])) rfl rfl (hb hby at_247) t k) ?_
    show own_Ends p e below s _ _ _ (T64.setTop (mkF m 248 #[.val (.int p0), .val (.int p1), .val (.ref b1), .val (.int z230), .val (.int (0 : Int32)), .unset, .unset, .unset, .unset, .unset, .unset, .unset, .unset, .unset, .unset, .unset] [(.long (own_tab i0))]))
    generalize hlo : (own_tab i0) = lo
    show own_Ends p e below s _ _ _ (T64.setTop (mkF m 248 #[.val (.int p0), .val (.int p1), .val (.ref b1), .val (.int z230), .val (.int (0 : Int32)), .unset, .unset, .unset, .unset, .unset, .unset, .unset, .unset, .unset, .unset, .unset] [(.long lo)]))
    refine own_step (fun t k => XS.lstore XL65.here hx rfl (hb hby at_248) rfl (l' := #[.val (.int p0), .val (.int p1), .val (.ref b1), .val (.int z230), .val (.int (0 : Int32)), .val (.long lo), .second, .unset, .unset, .unset, .unset, .unset, .unset, .unset, .unset, .unset]) rfl k) ?_
    show own_Ends p e below s _ _ _ (T64.setTop (mkF m 250 #[.val (.int p0), .val (.int p1), .val (.ref b1), .val (.int z230), .val (.int (0 : Int32)), .val (.long lo), .second, .unset, .unset, .unset, .unset, .unset, .unset, .unset, .unset, .unset] []))
    refine own_step (fun t k => XS.aloadN XL65.here hx rfl (hb hby at_250) rfl rfl k) ?_
    show own_Ends p e below s _ _ _ (T64.setTop (mkF m 251 #[.val (.int p0), .val (.int p1), .val (.ref b1), .val (.int z230), .val (.int (0 : Int32)), .val (.long lo), .second, .unset, .unset, .unset, .unset, .unset, .unset, .unset, .unset, .unset] [(.ref b1)]))
    refine own_step (fun t k => XS.iloadN XL65.here hx rfl (hb hby at_251) rfl k) ?_
    show own_Ends p e below s _ _ _ (T64.setTop (mkF m 252 #[.val (.int p0), .val (.int p1), .val (.ref b1), .val (.int z230), .val (.int (0 : Int32)), .val (.long lo), .second, .unset, .unset, .unset, .unset, .unset, .unset, .unset, .unset, .unset] [(.int z230), (.ref b1)]))
    refine own_step (fun t k => XS.iconst XL65.here hx rfl (hb hby at_252) k) ?_
    show own_Ends p e below s _ _ _ (T64.setTop (mkF m 253 #[.val (.int p0), .val (.int p1), .val (.ref b1), .val (.int z230), .val (.int (0 : Int32)), .val (.long lo), .second, .unset, .unset, .unset, .unset, .unset, .unset, .unset, .unset, .unset] [(.int (1 : Int32)), (.int z230), (.ref b1)]))
    refine own_step (fun t k => XS.iadd XL65.here hx rfl (hb hby at_253) rfl k) ?_
    show own_Ends p e below s _ _ _ (T64.setTop (mkF m 254 #[.val (.int p0), .val (.int p1), .val (.ref b1), .val (.int z230), .val (.int (0 : Int32)), .val (.long lo), .second, .unset, .unset, .unset, .unset, .unset, .unset, .unset, .unset, .unset] [(.int (z230 + (1 : Int32))), (.ref b1)]))
    refine own_step (fun t k => own_ldJ XL65 hx hZ e64 At (i0 + 1) hi1 (Nat.succ_lt_succ hl0) (g := (mkF m 254 #[.val (.int p0), .val (.int p1), .val (.ref b1), .val (.int z230), .val (.int (0 : Int32)), .val (.long lo), .second, .unset, .unset, .unset, .unset, .unset, .unset, .unset, .unset, .unset] [(.int (z230 + (1 : Int32))), (.ref b1)])) rfl rfl (hb hby at_254) t k) ?_
    show own_Ends p e below s _ _ _ (T64.setTop (mkF m 255 #[.val (.int p0), .val (.int p1), .val (.ref b1), .val (.int z230), .val (.int (0 : Int32)), .val (.long lo), .second, .unset, .unset, .unset, .unset, .unset, .unset, .unset, .unset, .unset] [(.long (own_tab (i0 + 1)))]))
    refine own_step (fun t k => XS.lconst XL65.here hx rfl (hb hby at_255) k) ?_
    show own_Ends p e below s _ _ _ (T64.setTop (mkF m 256 #[.val (.int p0), .val (.int p1), .val (.ref b1), .val (.int z230), .val (.int (0 : Int32)), .val (.long lo), .second, .unset, .unset, .unset, .unset, .unset, .unset, .unset, .unset, .unset] [(.long (1 : Int64)), (.long (own_tab (i0 + 1)))]))
    refine own_step (fun t k => XS.lsub XL65.here hx rfl (hb hby at_256) rfl k) ?_
    show own_Ends p e below s _ _ _ (T64.setTop (mkF m 257 #[.val (.int p0), .val (.int p1), .val (.ref b1), .val (.int z230), .val (.int (0 : Int32)), .val (.long lo), .second, .unset, .unset, .unset, .unset, .unset, .unset, .unset, .unset, .unset] [(.long ((own_tab (i0 + 1)) - (1 : Int64)))]))
    generalize hhv : ((own_tab (i0 + 1)) - (1 : Int64)) = hv
    show own_Ends p e below s _ _ _ (T64.setTop (mkF m 257 #[.val (.int p0), .val (.int p1), .val (.ref b1), .val (.int z230), .val (.int (0 : Int32)), .val (.long lo), .second, .unset, .unset, .unset, .unset, .unset, .unset, .unset, .unset, .unset] [(.long hv)]))
    refine own_step (fun t k => XS.lstore XL65.here hx rfl (hb hby at_257) rfl (l' := #[.val (.int p0), .val (.int p1), .val (.ref b1), .val (.int z230), .val (.int (0 : Int32)), .val (.long lo), .second, .val (.long hv), .second, .unset, .unset, .unset, .unset, .unset, .unset, .unset]) rfl k) ?_
    show own_Ends p e below s _ _ _ (T64.setTop (mkF m 259 #[.val (.int p0), .val (.int p1), .val (.ref b1), .val (.int z230), .val (.int (0 : Int32)), .val (.long lo), .second, .val (.long hv), .second, .unset, .unset, .unset, .unset, .unset, .unset, .unset] []))
    refine own_step (fun t k => XS.aloadN XL65.here hx rfl (hb hby at_259) rfl rfl k) ?_
    show own_Ends p e below s _ _ _ (T64.setTop (mkF m 260 #[.val (.int p0), .val (.int p1), .val (.ref b1), .val (.int z230), .val (.int (0 : Int32)), .val (.long lo), .second, .val (.long hv), .second, .unset, .unset, .unset, .unset, .unset, .unset, .unset] [(.ref b1)]))
    refine own_step (fun t k => XS.iloadN XL65.here hx rfl (hb hby at_260) rfl k) ?_
    show own_Ends p e below s _ _ _ (T64.setTop (mkF m 261 #[.val (.int p0), .val (.int p1), .val (.ref b1), .val (.int z230), .val (.int (0 : Int32)), .val (.long lo), .second, .val (.long hv), .second, .unset, .unset, .unset, .unset, .unset, .unset, .unset] [(.int z230), (.ref b1)]))
    refine own_step (fun t k => XS.iconst XL65.here hx rfl (hb hby at_261) k) ?_
    show own_Ends p e below s _ _ _ (T64.setTop (mkF m 262 #[.val (.int p0), .val (.int p1), .val (.ref b1), .val (.int z230), .val (.int (0 : Int32)), .val (.long lo), .second, .val (.long hv), .second, .unset, .unset, .unset, .unset, .unset, .unset, .unset] [(.int (1 : Int32)), (.int z230), (.ref b1)]))
    refine own_step (fun t k => XS.iadd XL65.here hx rfl (hb hby at_262) rfl k) ?_
    show own_Ends p e below s _ _ _ (T64.setTop (mkF m 263 #[.val (.int p0), .val (.int p1), .val (.ref b1), .val (.int z230), .val (.int (0 : Int32)), .val (.long lo), .second, .val (.long hv), .second, .unset, .unset, .unset, .unset, .unset, .unset, .unset] [(.int (z230 + (1 : Int32))), (.ref b1)]))
    refine own_step (fun t k => own_ldJ XL65 hx hZ e64 At (i0 + 1) hi1 (Nat.succ_lt_succ hl0) (g := (mkF m 263 #[.val (.int p0), .val (.int p1), .val (.ref b1), .val (.int z230), .val (.int (0 : Int32)), .val (.long lo), .second, .val (.long hv), .second, .unset, .unset, .unset, .unset, .unset, .unset, .unset] [(.int (z230 + (1 : Int32))), (.ref b1)])) rfl rfl (hb hby at_263) t k) ?_
    show own_Ends p e below s _ _ _ (T64.setTop (mkF m 264 #[.val (.int p0), .val (.int p1), .val (.ref b1), .val (.int z230), .val (.int (0 : Int32)), .val (.long lo), .second, .val (.long hv), .second, .unset, .unset, .unset, .unset, .unset, .unset, .unset] [(.long (own_tab (i0 + 1)))]))
    refine own_step (fun t k => XS.aloadN XL65.here hx rfl (hb hby at_264) rfl rfl k) ?_
    show own_Ends p e below s _ _ _ (T64.setTop (mkF m 265 #[.val (.int p0), .val (.int p1), .val (.ref b1), .val (.int z230), .val (.int (0 : Int32)), .val (.long lo), .second, .val (.long hv), .second, .unset, .unset, .unset, .unset, .unset, .unset, .unset] [(.ref b1), (.long (own_tab (i0 + 1)))]))
    refine own_step (fun t k => XS.iloadN XL65.here hx rfl (hb hby at_265) rfl k) ?_
    show own_Ends p e below s _ _ _ (T64.setTop (mkF m 266 #[.val (.int p0), .val (.int p1), .val (.ref b1), .val (.int z230), .val (.int (0 : Int32)), .val (.long lo), .second, .val (.long hv), .second, .unset, .unset, .unset, .unset, .unset, .unset, .unset] [(.int z230), (.ref b1), (.long (own_tab (i0 + 1)))]))
    refine own_step (fun t k => own_ldJ XL65 hx hZ e64 At i0 hi0 (Nat.lt_succ_of_lt hl0) (g := (mkF m 266 #[.val (.int p0), .val (.int p1), .val (.ref b1), .val (.int z230), .val (.int (0 : Int32)), .val (.long lo), .second, .val (.long hv), .second, .unset, .unset, .unset, .unset, .unset, .unset, .unset] [(.int z230), (.ref b1), (.long (own_tab (i0 + 1)))])) rfl rfl (hb hby at_266) t k) ?_
    show own_Ends p e below s _ _ _ (T64.setTop (mkF m 267 #[.val (.int p0), .val (.int p1), .val (.ref b1), .val (.int z230), .val (.int (0 : Int32)), .val (.long lo), .second, .val (.long hv), .second, .unset, .unset, .unset, .unset, .unset, .unset, .unset] [(.long (own_tab i0)), (.long (own_tab (i0 + 1)))]))
    refine own_step (fun t k => XS.lsub XL65.here hx rfl (hb hby at_267) rfl k) ?_
    show own_Ends p e below s _ _ _ (T64.setTop (mkF m 268 #[.val (.int p0), .val (.int p1), .val (.ref b1), .val (.int z230), .val (.int (0 : Int32)), .val (.long lo), .second, .val (.long hv), .second, .unset, .unset, .unset, .unset, .unset, .unset, .unset] [(.long ((own_tab (i0 + 1)) - (own_tab i0)))]))
    generalize hln : ((own_tab (i0 + 1)) - (own_tab i0)) = ln
    show own_Ends p e below s _ _ _ (T64.setTop (mkF m 268 #[.val (.int p0), .val (.int p1), .val (.ref b1), .val (.int z230), .val (.int (0 : Int32)), .val (.long lo), .second, .val (.long hv), .second, .unset, .unset, .unset, .unset, .unset, .unset, .unset] [(.long ln)]))
    refine own_step (fun t k => XS.lstore XL65.here hx rfl (hb hby at_268) rfl (l' := #[.val (.int p0), .val (.int p1), .val (.ref b1), .val (.int z230), .val (.int (0 : Int32)), .val (.long lo), .second, .val (.long hv), .second, .val (.long ln), .second, .unset, .unset, .unset, .unset, .unset]) rfl k) ?_
    show own_Ends p e below s _ _ _ (T64.setTop (mkF m 270 #[.val (.int p0), .val (.int p1), .val (.ref b1), .val (.int z230), .val (.int (0 : Int32)), .val (.long lo), .second, .val (.long hv), .second, .val (.long ln), .second, .unset, .unset, .unset, .unset, .unset] []))
    refine own_step (fun t k => XS.lload XL65.here hx rfl (hb hby at_270) rfl k) ?_
    show own_Ends p e below s _ _ _ (T64.setTop (mkF m 272 #[.val (.int p0), .val (.int p1), .val (.ref b1), .val (.int z230), .val (.int (0 : Int32)), .val (.long lo), .second, .val (.long hv), .second, .val (.long ln), .second, .unset, .unset, .unset, .unset, .unset] [(.long lo)]))
    refine own_step (fun t k => XS.iloadN XL65.here hx rfl (hb hby at_272) rfl k) ?_
    show own_Ends p e below s _ _ _ (T64.setTop (mkF m 273 #[.val (.int p0), .val (.int p1), .val (.ref b1), .val (.int z230), .val (.int (0 : Int32)), .val (.long lo), .second, .val (.long hv), .second, .val (.long ln), .second, .unset, .unset, .unset, .unset, .unset] [(.int p1), (.long lo)]))
    refine own_step (fun t k => XS.i2l XL65.here hx rfl (hb hby at_273) rfl k) ?_
    show own_Ends p e below s _ _ _ (T64.setTop (mkF m 274 #[.val (.int p0), .val (.int p1), .val (.ref b1), .val (.int z230), .val (.int (0 : Int32)), .val (.long lo), .second, .val (.long hv), .second, .val (.long ln), .second, .unset, .unset, .unset, .unset, .unset] [(.long (p1.toInt64)), (.long lo)]))
    refine own_step (fun t k => XL65.ldc2Long hx hown (mvT hZ (hw _ (List.mem_of_getElem? (i := 34) rfl))) (g := (mkF m 274 #[.val (.int p0), .val (.int p1), .val (.ref b1), .val (.int z230), .val (.int (0 : Int32)), .val (.long lo), .second, .val (.long hv), .second, .val (.long ln), .second, .unset, .unset, .unset, .unset, .unset] [(.long (p1.toInt64)), (.long lo)])) rfl (hb hby at_274) t k) ?_
    show own_Ends p e below s _ _ _ (T64.setTop (mkF m 277 #[.val (.int p0), .val (.int p1), .val (.ref b1), .val (.int z230), .val (.int (0 : Int32)), .val (.long lo), .second, .val (.long hv), .second, .val (.long ln), .second, .unset, .unset, .unset, .unset, .unset] [(.long (4294967295 : Int64)), (.long (p1.toInt64)), (.long lo)]))
    refine own_step (fun t k => XS.land XL65.here hx rfl (hb hby at_277) rfl k) ?_
    show own_Ends p e below s _ _ _ (T64.setTop (mkF m 278 #[.val (.int p0), .val (.int p1), .val (.ref b1), .val (.int z230), .val (.int (0 : Int32)), .val (.long lo), .second, .val (.long hv), .second, .val (.long ln), .second, .unset, .unset, .unset, .unset, .unset] [(.long ((p1.toInt64) &&& (4294967295 : Int64))), (.long lo)]))
    refine own_step (fun t k => XS.lload XL65.here hx rfl (hb hby at_278) rfl k) ?_
    show own_Ends p e below s _ _ _ (T64.setTop (mkF m 280 #[.val (.int p0), .val (.int p1), .val (.ref b1), .val (.int z230), .val (.int (0 : Int32)), .val (.long lo), .second, .val (.long hv), .second, .val (.long ln), .second, .unset, .unset, .unset, .unset, .unset] [(.long ln), (.long ((p1.toInt64) &&& (4294967295 : Int64))), (.long lo)]))
    refine own_step (fun t k => own_lrem XL65 hx rfl (hb hby at_280) rfl (hln ▸ own_gap hl0) k) ?_
    show own_Ends p e below s _ _ _ (T64.setTop (mkF m 281 #[.val (.int p0), .val (.int p1), .val (.ref b1), .val (.int z230), .val (.int (0 : Int32)), .val (.long lo), .second, .val (.long hv), .second, .val (.long ln), .second, .unset, .unset, .unset, .unset, .unset] [(.long (((p1.toInt64) &&& (4294967295 : Int64)) % ln)), (.long lo)]))
    refine own_step (fun t k => XS.ladd XL65.here hx rfl (hb hby at_281) rfl k) ?_
    show own_Ends p e below s _ _ _ (T64.setTop (mkF m 282 #[.val (.int p0), .val (.int p1), .val (.ref b1), .val (.int z230), .val (.int (0 : Int32)), .val (.long lo), .second, .val (.long hv), .second, .val (.long ln), .second, .unset, .unset, .unset, .unset, .unset] [(.long (lo + (((p1.toInt64) &&& (4294967295 : Int64)) % ln)))]))
    generalize hpt : (lo + (((p1.toInt64) &&& (4294967295 : Int64)) % ln)) = pt
    show own_Ends p e below s _ _ _ (T64.setTop (mkF m 282 #[.val (.int p0), .val (.int p1), .val (.ref b1), .val (.int z230), .val (.int (0 : Int32)), .val (.long lo), .second, .val (.long hv), .second, .val (.long ln), .second, .unset, .unset, .unset, .unset, .unset] [(.long pt)]))
    refine own_step (fun t k => XS.lstore XL65.here hx rfl (hb hby at_282) rfl (l' := #[.val (.int p0), .val (.int p1), .val (.ref b1), .val (.int z230), .val (.int (0 : Int32)), .val (.long lo), .second, .val (.long hv), .second, .val (.long ln), .second, .val (.long pt), .second, .unset, .unset, .unset]) rfl k) ?_
    show own_Ends p e below s _ _ _ (T64.setTop (mkF m 284 #[.val (.int p0), .val (.int p1), .val (.ref b1), .val (.int z230), .val (.int (0 : Int32)), .val (.long lo), .second, .val (.long hv), .second, .val (.long ln), .second, .val (.long pt), .second, .unset, .unset, .unset] []))
    refine own_step (fun t k => XS.lload XL65.here hx rfl (hb hby at_284) rfl k) ?_
    show own_Ends p e below s _ _ _ (T64.setTop (mkF m 286 #[.val (.int p0), .val (.int p1), .val (.ref b1), .val (.int z230), .val (.int (0 : Int32)), .val (.long lo), .second, .val (.long hv), .second, .val (.long ln), .second, .val (.long pt), .second, .unset, .unset, .unset] [(.long lo)]))
    refine own_step (fun t k => XS.l2i XL65.here hx rfl (hb hby at_286) rfl k) ?_
    show own_Ends p e below s _ _ _ (T64.setTop (mkF m 287 #[.val (.int p0), .val (.int p1), .val (.ref b1), .val (.int z230), .val (.int (0 : Int32)), .val (.long lo), .second, .val (.long hv), .second, .val (.long ln), .second, .val (.long pt), .second, .unset, .unset, .unset] [(.int (lo.toInt32))]))
    generalize hx287 : (lo.toInt32) = x287
    show own_Ends p e below s _ _ _ (T64.setTop (mkF m 287 #[.val (.int p0), .val (.int p1), .val (.ref b1), .val (.int z230), .val (.int (0 : Int32)), .val (.long lo), .second, .val (.long hv), .second, .val (.long ln), .second, .val (.long pt), .second, .unset, .unset, .unset] [(.int x287)]))
    obtain ⟨_, _, ⟨T73, L73, k73, n73⟩, -, X73, ⟨Lc73, hQ73, l73, y73, z73⟩, st73⟩ := Jvm.LawKit.callS XL65 hx (y := (⟨"com/example/shuttlecourse/shuttlecourse/model/XmlChars", "isNameStart", "(I)Z"⟩ : MethodName)) hown (mvT hZ (hw _ (List.mem_of_getElem? (i := 35) rfl))) (mvT hZ (hw _ (List.mem_of_getElem? (i := 36) rfl))) (mvT hZ (hw _ (List.mem_of_getElem? (i := 37) rfl))) (mvT hZ (hw _ (List.mem_of_getElem? (i := 38) rfl))) (by decide) (backOf (W := 0) (rm1 l Z a0 hw [] x287  h64 n0  ) hZ (hw _ (List.mem_of_getElem? (i := 38) rfl)) (hw _ (List.mem_of_getElem? (i := 37) rfl)) (by decide) (by decide)) (g := (mkF m 287 #[.val (.int p0), .val (.int p1), .val (.ref b1), .val (.int z230), .val (.int (0 : Int32)), .val (.long lo), .second, .val (.long hv), .second, .val (.long ln), .second, .val (.long pt), .second, .unset, .unset, .unset] [(.int x287)])) rfl (by rw [hml]; rfl) (argsL := [(.int x287)]) (rest := []) (lenOf pd0_0 rfl) rfl (by show 2 * 0 + _ ≤ _; exact Nat.le_of_eq rfl) (hb hby at_287) (fun _ _ => ⟨rfl, e64, (by decide : 1 + 0 ≤ _), (by decide : 32 + 0 ≤ _)⟩)
    dsimp only [Pt.U, Pt.locs, Pt.cells, Pt.slots] at X73 l73 y73 z73 st73 hQ73
    subst l73 y73 z73
    obtain ⟨rfl, N73q, e73⟩ := hQ73
    have N73 := Fr.app NL65 N73q
    refine own_step st73 ?_
    obtain ⟨LL74, XL74, NL74⟩ : ∃ LL, Stand p l e room_1 s m #[(.int p0), (.int p1)] below meth c T73 LL 1 32 ∧ Fr n0 LL := ⟨_, X73, N73⟩
    show own_Ends p e below s _ _ _ (T73.setTop (mkF m 290 #[.val (.int p0), .val (.int p1), .val (.ref b1), .val (.int z230), .val (.int (0 : Int32)), .val (.long lo), .second, .val (.long hv), .second, .val (.long ln), .second, .val (.long pt), .second, .unset, .unset, .unset] [(.int (f1_0 x287))]))
    refine own_step (fun t k => XS.iload XL74.here hx rfl (hb hby at_290) rfl k) ?_
    show own_Ends p e below s _ _ _ (T73.setTop (mkF m 292 #[.val (.int p0), .val (.int p1), .val (.ref b1), .val (.int z230), .val (.int (0 : Int32)), .val (.long lo), .second, .val (.long hv), .second, .val (.long ln), .second, .val (.long pt), .second, .unset, .unset, .unset] [(.int (0 : Int32)), (.int (f1_0 x287))]))
    refine own_step (fun t k => XS.icmpNo XL74.here hx rfl (hb hby at_292) rfl (teq (show (f1_0 x287) = (0 : Int32) from by rw [← hx287, ← hlo]; exact own_lo' hi0 hl0 hc235_66)).2 k) ?_
    show own_Ends p e below s _ _ _ (T73.setTop (mkF m 295 #[.val (.int p0), .val (.int p1), .val (.ref b1), .val (.int z230), .val (.int (0 : Int32)), .val (.long lo), .second, .val (.long hv), .second, .val (.long ln), .second, .val (.long pt), .second, .unset, .unset, .unset] []))
    refine own_step (fun t k => XS.iconst XL74.here hx rfl (hb hby at_295) k) ?_
    show own_Ends p e below s _ _ _ (T73.setTop (mkF m 296 #[.val (.int p0), .val (.int p1), .val (.ref b1), .val (.int z230), .val (.int (0 : Int32)), .val (.long lo), .second, .val (.long hv), .second, .val (.long ln), .second, .val (.long pt), .second, .unset, .unset, .unset] [(.int (1 : Int32))]))
    refine own_step (fun t k => XS.goto XL74.here hx rfl (pc0 := 296) (pc' := 300) rfl (hb hby at_296) (by decide) (by decide) k) ?_
    show own_Ends p e below s _ _ _ (T73.setTop (mkF m 300 #[.val (.int p0), .val (.int p1), .val (.ref b1), .val (.int z230), .val (.int (0 : Int32)), .val (.long lo), .second, .val (.long hv), .second, .val (.long ln), .second, .val (.long pt), .second, .unset, .unset, .unset] [(.int (1 : Int32))]))
    refine own_step (fun t k => XS.istore XL74.here hx rfl (hb hby at_300) rfl (l' := #[.val (.int p0), .val (.int p1), .val (.ref b1), .val (.int z230), .val (.int (0 : Int32)), .val (.long lo), .second, .val (.long hv), .second, .val (.long ln), .second, .val (.long pt), .second, .val (.int (1 : Int32)), .unset, .unset]) rfl k) ?_
    show own_Ends p e below s _ _ _ (T73.setTop (mkF m 302 #[.val (.int p0), .val (.int p1), .val (.ref b1), .val (.int z230), .val (.int (0 : Int32)), .val (.long lo), .second, .val (.long hv), .second, .val (.long ln), .second, .val (.long pt), .second, .val (.int (1 : Int32)), .unset, .unset] []))
    refine own_step (fun t k => XS.lload XL74.here hx rfl (hb hby at_302) rfl k) ?_
    show own_Ends p e below s _ _ _ (T73.setTop (mkF m 304 #[.val (.int p0), .val (.int p1), .val (.ref b1), .val (.int z230), .val (.int (0 : Int32)), .val (.long lo), .second, .val (.long hv), .second, .val (.long ln), .second, .val (.long pt), .second, .val (.int (1 : Int32)), .unset, .unset] [(.long hv)]))
    refine own_step (fun t k => XS.l2i XL74.here hx rfl (hb hby at_304) rfl k) ?_
    show own_Ends p e below s _ _ _ (T73.setTop (mkF m 305 #[.val (.int p0), .val (.int p1), .val (.ref b1), .val (.int z230), .val (.int (0 : Int32)), .val (.long lo), .second, .val (.long hv), .second, .val (.long ln), .second, .val (.long pt), .second, .val (.int (1 : Int32)), .unset, .unset] [(.int (hv.toInt32))]))
    generalize hx305 : (hv.toInt32) = x305
    show own_Ends p e below s _ _ _ (T73.setTop (mkF m 305 #[.val (.int p0), .val (.int p1), .val (.ref b1), .val (.int z230), .val (.int (0 : Int32)), .val (.long lo), .second, .val (.long hv), .second, .val (.long ln), .second, .val (.long pt), .second, .val (.int (1 : Int32)), .unset, .unset] [(.int x305)]))
    obtain ⟨_, _, ⟨T75, L75, k75, n75⟩, -, X75, ⟨Lc75, hQ75, l75, y75, z75⟩, st75⟩ := Jvm.LawKit.callS XL74 hx (y := (⟨"com/example/shuttlecourse/shuttlecourse/model/XmlChars", "isNameStart", "(I)Z"⟩ : MethodName)) hown (mvT hZ (hw _ (List.mem_of_getElem? (i := 35) rfl))) (mvT hZ (hw _ (List.mem_of_getElem? (i := 36) rfl))) (mvT hZ (hw _ (List.mem_of_getElem? (i := 37) rfl))) (mvT hZ (hw _ (List.mem_of_getElem? (i := 38) rfl))) (by decide) (backOf (W := 0) (rm1 l Z a0 hw [] x305  h64 n0  ) hZ (hw _ (List.mem_of_getElem? (i := 38) rfl)) (hw _ (List.mem_of_getElem? (i := 37) rfl)) (by decide) (by decide)) (g := (mkF m 305 #[.val (.int p0), .val (.int p1), .val (.ref b1), .val (.int z230), .val (.int (0 : Int32)), .val (.long lo), .second, .val (.long hv), .second, .val (.long ln), .second, .val (.long pt), .second, .val (.int (1 : Int32)), .unset, .unset] [(.int x305)])) rfl (by rw [hml]; rfl) (argsL := [(.int x305)]) (rest := []) (lenOf pd0_0 rfl) rfl (by show 2 * 0 + _ ≤ _; exact Nat.le_of_eq rfl) (hb hby at_305) (fun _ _ => ⟨rfl, e73, (by decide : 1 + 0 ≤ _), (by decide : 32 + 0 ≤ _)⟩)
    dsimp only [Pt.U, Pt.locs, Pt.cells, Pt.slots] at X75 l75 y75 z75 st75 hQ75
    subst l75 y75 z75
    obtain ⟨rfl, N75q, e75⟩ := hQ75
    have N75 := Fr.app NL74 N75q
    refine own_step st75 ?_
    obtain ⟨LL76, XL76, NL76⟩ : ∃ LL, Stand p l e room_1 s m #[(.int p0), (.int p1)] below meth c T75 LL 1 32 ∧ Fr n0 LL := ⟨_, X75, N75⟩
    show own_Ends p e below s _ _ _ (T75.setTop (mkF m 308 #[.val (.int p0), .val (.int p1), .val (.ref b1), .val (.int z230), .val (.int (0 : Int32)), .val (.long lo), .second, .val (.long hv), .second, .val (.long ln), .second, .val (.long pt), .second, .val (.int (1 : Int32)), .unset, .unset] [(.int (f1_0 x305))]))
    refine own_step (fun t k => XS.iload XL76.here hx rfl (hb hby at_308) rfl k) ?_
    show own_Ends p e below s _ _ _ (T75.setTop (mkF m 310 #[.val (.int p0), .val (.int p1), .val (.ref b1), .val (.int z230), .val (.int (0 : Int32)), .val (.long lo), .second, .val (.long hv), .second, .val (.long ln), .second, .val (.long pt), .second, .val (.int (1 : Int32)), .unset, .unset] [(.int (0 : Int32)), (.int (f1_0 x305))]))
    refine own_step (fun t k => XS.icmpNo XL76.here hx rfl (hb hby at_310) rfl (teq (show (f1_0 x305) = (0 : Int32) from by rw [← hx305, ← hhv]; exact own_hi' hi0 hl0 hc235_66)).2 k) ?_
    show own_Ends p e below s _ _ _ (T75.setTop (mkF m 313 #[.val (.int p0), .val (.int p1), .val (.ref b1), .val (.int z230), .val (.int (0 : Int32)), .val (.long lo), .second, .val (.long hv), .second, .val (.long ln), .second, .val (.long pt), .second, .val (.int (1 : Int32)), .unset, .unset] []))
    refine own_step (fun t k => XS.iconst XL76.here hx rfl (hb hby at_313) k) ?_
    show own_Ends p e below s _ _ _ (T75.setTop (mkF m 314 #[.val (.int p0), .val (.int p1), .val (.ref b1), .val (.int z230), .val (.int (0 : Int32)), .val (.long lo), .second, .val (.long hv), .second, .val (.long ln), .second, .val (.long pt), .second, .val (.int (1 : Int32)), .unset, .unset] [(.int (1 : Int32))]))
    refine own_step (fun t k => XS.goto XL76.here hx rfl (pc0 := 314) (pc' := 318) rfl (hb hby at_314) (by decide) (by decide) k) ?_
    show own_Ends p e below s _ _ _ (T75.setTop (mkF m 318 #[.val (.int p0), .val (.int p1), .val (.ref b1), .val (.int z230), .val (.int (0 : Int32)), .val (.long lo), .second, .val (.long hv), .second, .val (.long ln), .second, .val (.long pt), .second, .val (.int (1 : Int32)), .unset, .unset] [(.int (1 : Int32))]))
    refine own_step (fun t k => XS.istore XL76.here hx rfl (hb hby at_318) rfl (l' := #[.val (.int p0), .val (.int p1), .val (.ref b1), .val (.int z230), .val (.int (0 : Int32)), .val (.long lo), .second, .val (.long hv), .second, .val (.long ln), .second, .val (.long pt), .second, .val (.int (1 : Int32)), .val (.int (1 : Int32)), .unset]) rfl k) ?_
    show own_Ends p e below s _ _ _ (T75.setTop (mkF m 320 #[.val (.int p0), .val (.int p1), .val (.ref b1), .val (.int z230), .val (.int (0 : Int32)), .val (.long lo), .second, .val (.long hv), .second, .val (.long ln), .second, .val (.long pt), .second, .val (.int (1 : Int32)), .val (.int (1 : Int32)), .unset] []))
    refine own_step (fun t k => XS.lload XL76.here hx rfl (hb hby at_320) rfl k) ?_
    show own_Ends p e below s _ _ _ (T75.setTop (mkF m 322 #[.val (.int p0), .val (.int p1), .val (.ref b1), .val (.int z230), .val (.int (0 : Int32)), .val (.long lo), .second, .val (.long hv), .second, .val (.long ln), .second, .val (.long pt), .second, .val (.int (1 : Int32)), .val (.int (1 : Int32)), .unset] [(.long pt)]))
    refine own_step (fun t k => XS.l2i XL76.here hx rfl (hb hby at_322) rfl k) ?_
    show own_Ends p e below s _ _ _ (T75.setTop (mkF m 323 #[.val (.int p0), .val (.int p1), .val (.ref b1), .val (.int z230), .val (.int (0 : Int32)), .val (.long lo), .second, .val (.long hv), .second, .val (.long ln), .second, .val (.long pt), .second, .val (.int (1 : Int32)), .val (.int (1 : Int32)), .unset] [(.int (pt.toInt32))]))
    generalize hx323 : (pt.toInt32) = x323
    show own_Ends p e below s _ _ _ (T75.setTop (mkF m 323 #[.val (.int p0), .val (.int p1), .val (.ref b1), .val (.int z230), .val (.int (0 : Int32)), .val (.long lo), .second, .val (.long hv), .second, .val (.long ln), .second, .val (.long pt), .second, .val (.int (1 : Int32)), .val (.int (1 : Int32)), .unset] [(.int x323)]))
    obtain ⟨_, _, ⟨T77, L77, k77, n77⟩, -, X77, ⟨Lc77, hQ77, l77, y77, z77⟩, st77⟩ := Jvm.LawKit.callS XL76 hx (y := (⟨"com/example/shuttlecourse/shuttlecourse/model/XmlChars", "isNameStart", "(I)Z"⟩ : MethodName)) hown (mvT hZ (hw _ (List.mem_of_getElem? (i := 35) rfl))) (mvT hZ (hw _ (List.mem_of_getElem? (i := 36) rfl))) (mvT hZ (hw _ (List.mem_of_getElem? (i := 37) rfl))) (mvT hZ (hw _ (List.mem_of_getElem? (i := 38) rfl))) (by decide) (backOf (W := 0) (rm1 l Z a0 hw [] x323  h64 n0  ) hZ (hw _ (List.mem_of_getElem? (i := 38) rfl)) (hw _ (List.mem_of_getElem? (i := 37) rfl)) (by decide) (by decide)) (g := (mkF m 323 #[.val (.int p0), .val (.int p1), .val (.ref b1), .val (.int z230), .val (.int (0 : Int32)), .val (.long lo), .second, .val (.long hv), .second, .val (.long ln), .second, .val (.long pt), .second, .val (.int (1 : Int32)), .val (.int (1 : Int32)), .unset] [(.int x323)])) rfl (by rw [hml]; rfl) (argsL := [(.int x323)]) (rest := []) (lenOf pd0_0 rfl) rfl (by show 2 * 0 + _ ≤ _; exact Nat.le_of_eq rfl) (hb hby at_323) (fun _ _ => ⟨rfl, e75, (by decide : 1 + 0 ≤ _), (by decide : 32 + 0 ≤ _)⟩)
    dsimp only [Pt.U, Pt.locs, Pt.cells, Pt.slots] at X77 l77 y77 z77 st77 hQ77
    subst l77 y77 z77
    obtain ⟨rfl, N77q, e77⟩ := hQ77
    have N77 := Fr.app NL76 N77q
    refine own_step st77 ?_
    obtain ⟨LL78, XL78, NL78⟩ : ∃ LL, Stand p l e room_1 s m #[(.int p0), (.int p1)] below meth c T77 LL 1 32 ∧ Fr n0 LL := ⟨_, X77, N77⟩
    show own_Ends p e below s _ _ _ (T77.setTop (mkF m 326 #[.val (.int p0), .val (.int p1), .val (.ref b1), .val (.int z230), .val (.int (0 : Int32)), .val (.long lo), .second, .val (.long hv), .second, .val (.long ln), .second, .val (.long pt), .second, .val (.int (1 : Int32)), .val (.int (1 : Int32)), .unset] [(.int (f1_0 x323))]))
    refine own_step (fun t k => XS.iload XL78.here hx rfl (hb hby at_326) rfl k) ?_
    show own_Ends p e below s _ _ _ (T77.setTop (mkF m 328 #[.val (.int p0), .val (.int p1), .val (.ref b1), .val (.int z230), .val (.int (0 : Int32)), .val (.long lo), .second, .val (.long hv), .second, .val (.long ln), .second, .val (.long pt), .second, .val (.int (1 : Int32)), .val (.int (1 : Int32)), .unset] [(.int (0 : Int32)), (.int (f1_0 x323))]))
    refine own_step (fun t k => XS.icmpNo XL78.here hx rfl (hb hby at_328) rfl (teq (show (f1_0 x323) = (0 : Int32) from by rw [← hx323, ← hpt, ← hln, ← hlo]; exact own_pt' p1 hi0 hl0 hc235_66)).2 k) ?_
    show own_Ends p e below s _ _ _ (T77.setTop (mkF m 331 #[.val (.int p0), .val (.int p1), .val (.ref b1), .val (.int z230), .val (.int (0 : Int32)), .val (.long lo), .second, .val (.long hv), .second, .val (.long ln), .second, .val (.long pt), .second, .val (.int (1 : Int32)), .val (.int (1 : Int32)), .unset] []))
    refine own_step (fun t k => XS.iconst XL78.here hx rfl (hb hby at_331) k) ?_
    show own_Ends p e below s _ _ _ (T77.setTop (mkF m 332 #[.val (.int p0), .val (.int p1), .val (.ref b1), .val (.int z230), .val (.int (0 : Int32)), .val (.long lo), .second, .val (.long hv), .second, .val (.long ln), .second, .val (.long pt), .second, .val (.int (1 : Int32)), .val (.int (1 : Int32)), .unset] [(.int (1 : Int32))]))
    refine own_step (fun t k => XS.goto XL78.here hx rfl (pc0 := 332) (pc' := 336) rfl (hb hby at_332) (by decide) (by decide) k) ?_
    show own_Ends p e below s _ _ _ (T77.setTop (mkF m 336 #[.val (.int p0), .val (.int p1), .val (.ref b1), .val (.int z230), .val (.int (0 : Int32)), .val (.long lo), .second, .val (.long hv), .second, .val (.long ln), .second, .val (.long pt), .second, .val (.int (1 : Int32)), .val (.int (1 : Int32)), .unset] [(.int (1 : Int32))]))
    refine own_step (fun t k => XS.istore XL78.here hx rfl (hb hby at_336) rfl (l' := #[.val (.int p0), .val (.int p1), .val (.ref b1), .val (.int z230), .val (.int (0 : Int32)), .val (.long lo), .second, .val (.long hv), .second, .val (.long ln), .second, .val (.long pt), .second, .val (.int (1 : Int32)), .val (.int (1 : Int32)), .val (.int (1 : Int32))]) rfl k) ?_
    show own_Ends p e below s _ _ _ (T77.setTop (mkF m 338 #[.val (.int p0), .val (.int p1), .val (.ref b1), .val (.int z230), .val (.int (0 : Int32)), .val (.long lo), .second, .val (.long hv), .second, .val (.long ln), .second, .val (.long pt), .second, .val (.int (1 : Int32)), .val (.int (1 : Int32)), .val (.int (1 : Int32))] []))
    refine own_step (fun t k => XS.iload XL78.here hx rfl (hb hby at_338) rfl k) ?_
    show own_Ends p e below s _ _ _ (T77.setTop (mkF m 340 #[.val (.int p0), .val (.int p1), .val (.ref b1), .val (.int z230), .val (.int (0 : Int32)), .val (.long lo), .second, .val (.long hv), .second, .val (.long ln), .second, .val (.long pt), .second, .val (.int (1 : Int32)), .val (.int (1 : Int32)), .val (.int (1 : Int32))] [(.int (1 : Int32))]))
    refine own_step (fun t k => XS.ifNo XL78.here hx rfl (hb hby at_340) rfl ((if0 _ _).trans (feq (by decide : ¬ ((1 : Int32) = (0 : Int32)))).1) k) ?_
    show own_Ends p e below s _ _ _ (T77.setTop (mkF m 343 #[.val (.int p0), .val (.int p1), .val (.ref b1), .val (.int z230), .val (.int (0 : Int32)), .val (.long lo), .second, .val (.long hv), .second, .val (.long ln), .second, .val (.long pt), .second, .val (.int (1 : Int32)), .val (.int (1 : Int32)), .val (.int (1 : Int32))] []))
    refine own_step (fun t k => XS.iload XL78.here hx rfl (hb hby at_343) rfl k) ?_
    show own_Ends p e below s _ _ _ (T77.setTop (mkF m 345 #[.val (.int p0), .val (.int p1), .val (.ref b1), .val (.int z230), .val (.int (0 : Int32)), .val (.long lo), .second, .val (.long hv), .second, .val (.long ln), .second, .val (.long pt), .second, .val (.int (1 : Int32)), .val (.int (1 : Int32)), .val (.int (1 : Int32))] [(.int (1 : Int32))]))
    refine own_step (fun t k => XS.ifNo XL78.here hx rfl (hb hby at_345) rfl ((if0 _ _).trans (feq (by decide : ¬ ((1 : Int32) = (0 : Int32)))).1) k) ?_
    show own_Ends p e below s _ _ _ (T77.setTop (mkF m 348 #[.val (.int p0), .val (.int p1), .val (.ref b1), .val (.int z230), .val (.int (0 : Int32)), .val (.long lo), .second, .val (.long hv), .second, .val (.long ln), .second, .val (.long pt), .second, .val (.int (1 : Int32)), .val (.int (1 : Int32)), .val (.int (1 : Int32))] []))
    refine own_step (fun t k => XS.iload XL78.here hx rfl (hb hby at_348) rfl k) ?_
    show own_Ends p e below s _ _ _ (T77.setTop (mkF m 350 #[.val (.int p0), .val (.int p1), .val (.ref b1), .val (.int z230), .val (.int (0 : Int32)), .val (.long lo), .second, .val (.long hv), .second, .val (.long ln), .second, .val (.long pt), .second, .val (.int (1 : Int32)), .val (.int (1 : Int32)), .val (.int (1 : Int32))] [(.int (1 : Int32))]))
    refine own_step (fun t k => XS.ifNo XL78.here hx rfl (hb hby at_350) rfl ((if0 _ _).trans (feq (by decide : ¬ ((1 : Int32) = (0 : Int32)))).1) k) ?_
    show own_Ends p e below s _ _ _ (T77.setTop (mkF m 353 #[.val (.int p0), .val (.int p1), .val (.ref b1), .val (.int z230), .val (.int (0 : Int32)), .val (.long lo), .second, .val (.long hv), .second, .val (.long ln), .second, .val (.long pt), .second, .val (.int (1 : Int32)), .val (.int (1 : Int32)), .val (.int (1 : Int32))] []))
    refine own_step (fun t k => XS.iconst XL78.here hx rfl (hb hby at_353) k) ?_
    show own_Ends p e below s _ _ _ (T77.setTop (mkF m 354 #[.val (.int p0), .val (.int p1), .val (.ref b1), .val (.int z230), .val (.int (0 : Int32)), .val (.long lo), .second, .val (.long hv), .second, .val (.long ln), .second, .val (.long pt), .second, .val (.int (1 : Int32)), .val (.int (1 : Int32)), .val (.int (1 : Int32))] [(.int (1 : Int32))]))
    refine own_step (fun t k => XS.goto XL78.here hx rfl (pc0 := 354) (pc' := 358) rfl (hb hby at_354) (by decide) (by decide) k) ?_
    show own_Ends p e below s _ _ _ (T77.setTop (mkF m 358 #[.val (.int p0), .val (.int p1), .val (.ref b1), .val (.int z230), .val (.int (0 : Int32)), .val (.long lo), .second, .val (.long hv), .second, .val (.long ln), .second, .val (.long pt), .second, .val (.int (1 : Int32)), .val (.int (1 : Int32)), .val (.int (1 : Int32))] [(.int (1 : Int32))]))
    exact own_retN XL78 hx hlk (t := .boolean) hret (by simp) (hb hby at_358) (w := (1 : Int32)) (by decide) ⟨rfl, NL78⟩ (by decide) (by decide)
set_option maxRecDepth 65536 in
set_option maxHeartbeats 40000000 in
theorem comes_1 {Post : Tables → Env → Array Value → State → Outcome → State → Prop} (hpost : ∀ tb e args s v u, (limb_1_1.after args s (.returned v) u = true ∧ limb_1_2.after args s (.returned v) u = true ∧ True) → FrameEnd s (.returned v) u (Jvm.fieldLocs frame_1_writes args s ++ Jvm.arrayLocs frame_1_arrays args s ++ Jvm.staticLocs frame_1_statics s) 16 128 → Post tb e args s (.returned v) u) :
    ArmFor flags0 classFile x code maxLocals ret World_1 tables_1 room_1 Calls_1 rest_1 Pre_1 Post := by
  intro l hfl _ _ p e ha hc hk s m args below hf hA hF happ hP
  obtain ⟨hcalls, hrest, hpre⟩ := hP
  obtain ⟨-, -, -, hnamed, -, -, -, hat⟩ := (Spec.applies_iff hf).mp happ
  obtain ⟨hg, hn⟩ := and_e (Cond.before_iff.mp (show (Jvm.Cond.and given_1 narrow_1).before args s = true from hpre))
  obtain ⟨g0, hr0⟩ := and_e hg
  obtain ⟨g1, hr1⟩ := and_e hr0
  obtain ⟨w0, w1, rfl⟩ : ∃ w0 w1 : Value, args = #[w0, w1] := by
    have hs : args.size = 2 := by simpa [Cond.value, given_1] using g0
    obtain ⟨L⟩ := args
    match L, hs with
    | [w0, w1], _ => exact ⟨w0, w1, rfl⟩
  have hw := fun d (hd : d ∈ tables_1) => atoms_spec (ws := Jvm.Cond.code x code maxLocals ret :: tables_1) hat d (List.mem_cons_of_mem _ hd)
  obtain ⟨i0, ei0⟩ := is_v g1
  obtain rfl : w0 = (.int i0) := Option.some.inj ei0
  obtain ⟨i1, ei1⟩ := is_v hr1
  obtain rfl : w1 = (.int i1) := Option.some.inj ei1
  obtain ⟨n, o, h1, h2, h3, _, L, rfl, ⟨rfl, N⟩, hq⟩ := rm0 l s _ hw tables_1 i0 i1 s.heap s.heap.size (Nat.le_refl _)  p e ha hc hk s m _ below hf ((Spec.applies_iff_loose hf).mp happ).1 ⟨rfl, State.Warmed39.refl s, rfl⟩ trivial
  refine ⟨n, _, h1, h2, h3, hpost _ _ _ _ _ _ ⟨Cond.after_iff.mpr rfl, Cond.after_iff.mpr (eq_i res_at (Term.int_eval (1)) rfl), trivial⟩ ⟨hq.1, hq.2.1, (hq.2.2.sift fun y hy => Or.inr (N y hy)).mono (by decide) (by decide)⟩⟩
theorem main_1_1 : Claimed_1_1 := comes_1 fun _ _ _ _ _ _ h hF => ⟨h.1, hF⟩
theorem main_1_2 : Claimed_1_2 := comes_1 fun _ _ _ _ _ _ h hF => ⟨h.2.1, hF⟩
end Jvm.Pilot.@@N@@
namespace Jvm.Pilot.@@N@@
open Jvm Jvm.ClassFile Sem Op Lib Jvm.Free Jvm.Stand Jvm.Pilot.@@N@@.Jvm.D
/-! MADE BY PROGRAM (witnessworld.py) out of the Statement's table words and the real class files: 11 classes; the members and pool entries that the words name. The judged class is class 1, her method 1. -/
namespace start1
open Jvm.ClassFile
def u (s : String) : CpInfo := .utf8 (stringToUtf16 s)
/-- a pool by its gaps: so many unusable entries, then the entry; so many at the end -/
def gap : Nat → List CpInfo → List CpInfo
  | 0, r => r
  | n + 1, r => .unusable :: gap n r
def poolList (es : List (Nat × CpInfo)) (last : Nat) : List CpInfo := es.foldr (fun e r => gap e.1 (e.2 :: r)) (gap last [])
def pool (es : List (Nat × CpInfo)) (last : Nat) : Array CpInfo := ⟨poolList es last⟩
def fileOf (pool : Array CpInfo) (this : Nat) (attrs : Array Attribute := #[]) (ms : Array MethodInfo := #[]) (fl : Nat := 33) (sup : Nat := 0) (ifs : Array Nat := #[]) (fds : Array FieldInfo := #[]) : ClassFile where
  minorVersion := 0
  majorVersion := 65
  constantPool := pool
  accessFlags := fl
  thisClass := this
  superClass := sup
  interfaces := ifs
  fields := fds
  methods := ms
  attributes := attrs
def plain (name : String) (sup : Option ClassId) : Class where
  name := name
  kind := .ordinary
  loader := none
  accessFlags := 33
  super := sup
  interfaces := #[]
  cf := none
  fields := #[]
  methods := #[]
  instanceTypes := #[]
  staticTypes := #[]
  resolved := #[]
  callSites := []
  init := .initialized
  statics := none
  mirror := none

def pool0 : Array CpInfo := pool [(5, u "<init>"), (0, u "()V"), (1, .class_ 10), (1, u "java/lang/Object")] 113

def k0m0 : Method := { name := "<init>", desc := "()V", sig := { parameters := [], returnType := none }, accessFlags := 1, code := none }
/-- java/lang/Object -/
def k0 : Class := { plain "java/lang/Object" none with
  accessFlags := 33
  interfaces := #[]
  cf := some (fileOf pool0 8 #[] #[{ accessFlags := 1, nameIndex := 5, descriptorIndex := 6, attributes := #[] }] 33 0 #[] #[])
  fields := #[]
  methods := #[k0m0]
  instanceTypes := #[]
  staticTypes := #[]
  resolved := Array.replicate 124 none
  statics := none }

def pool1 : Array CpInfo := pool [(2, .class_ 4), (1, u "java/lang/Object"), (0, u "<init>"), (0, u "()V"), (0, .long 18446744071562067968), (1, .long 65), (1, .long 91), (1, .long 95), (1, .long 96), (1, .long 97), (1, .long 123), (1, .long 192), (1, .long 215), (1, .long 216), (1, .long 247), (1, .long 248), (1, .long 768), (1, .long 880), (1, .long 894), (1, .long 895), (1, .long 8192), (1, .long 8204), (1, .long 8206), (1, .long 8304), (1, .long 8592), (1, .long 11264), (1, .long 12272), (1, .long 12289), (1, .long 55296), (1, .long 63744), (1, .long 64976), (1, .long 65008), (1, .long 65534), (1, .long 65536), (1, .long 983040), (1, .long 2147483648), (1, .integer 2147483647), (0, .long 4294967295), (1, .methodref 75 76), (0, .class_ 77), (0, .nameAndType 78 79), (0, u "com/example/shuttlecourse/shuttlecourse/model/XmlChars"), (0, u "isNameStart"), (0, u "(I)Z"), (0, .class_ 81), (0, u "com/example/shuttlecourse/shuttlecourse/model/XmlCharsIsNameStartPinLaw"), (2, u "law"), (0, u "(II)Z")] 5

def k1m0 : Method := { name := "<init>", desc := "()V", sig := { parameters := [], returnType := none }, accessFlags := 2, code := none }
def k1c1 : Code := { maxStack := 6, maxLocals := 16, code := code, exceptionTable := #[], attributes := #[] }
def k1m1 : Method := { name := "law", desc := "(II)Z", sig := { parameters := [.int, .int], returnType := some .boolean }, accessFlags := 9, code := some k1c1 }
/-- com/example/shuttlecourse/shuttlecourse/model/XmlCharsIsNameStartPinLaw -/
def k1 : Class := { plain "com/example/shuttlecourse/shuttlecourse/model/XmlCharsIsNameStartPinLaw" (some 0) with
  accessFlags := 49
  interfaces := #[]
  cf := some (fileOf pool1 80 #[] #[{ accessFlags := 2, nameIndex := 5, descriptorIndex := 6, attributes := #[] }, { accessFlags := 9, nameIndex := 84, descriptorIndex := 85, attributes := #[] }] 49 2 #[] #[])
  fields := #[]
  methods := #[k1m0, k1m1]
  instanceTypes := #[]
  staticTypes := #[]
  resolved := Array.replicate 91 none
  statics := none }

def pool2 : Array CpInfo := pool [(2, .class_ 4), (1, u "java/lang/Object"), (0, u "<init>"), (0, u "()V"), (0, .integer 55295), (0, .integer 63744), (0, .integer 64975), (0, .integer 65008), (0, .integer 65533), (0, .integer 65536), (0, .integer 983039), (1, .class_ 17), (1, u "com/example/shuttlecourse/shuttlecourse/model/XmlChars"), (0, u "isNameStart"), (0, u "(I)Z")] 65

def k2m0 : Method := { name := "<init>", desc := "()V", sig := { parameters := [], returnType := none }, accessFlags := 2, code := none }
def k2c1 : Code := { maxStack := 2, maxLocals := 1, code := prog_88_method_2_code, exceptionTable := #[], attributes := #[] }
def k2m1 : Method := { name := "isNameStart", desc := "(I)Z", sig := { parameters := [.int], returnType := some .boolean }, accessFlags := 9, code := some k2c1 }
/-- com/example/shuttlecourse/shuttlecourse/model/XmlChars -/
def k2 : Class := { plain "com/example/shuttlecourse/shuttlecourse/model/XmlChars" (some 0) with
  accessFlags := 49
  interfaces := #[]
  cf := some (fileOf pool2 15 #[] #[{ accessFlags := 2, nameIndex := 5, descriptorIndex := 6, attributes := #[] }, { accessFlags := 9, nameIndex := 18, descriptorIndex := 19, attributes := #[] }] 49 2 #[] #[])
  fields := #[]
  methods := #[k2m0, k2m1]
  instanceTypes := #[]
  staticTypes := #[]
  resolved := Array.replicate 85 none
  statics := none }

def pool3 : Array CpInfo := pool [(1, u "java/lang/Cloneable"), (0, .class_ 1), (0, u "java/lang/Object"), (0, .class_ 3)] 3

/-- java/lang/Cloneable -/
def k3 : Class := { plain "java/lang/Cloneable" (some 0) with
  accessFlags := 1537
  interfaces := #[]
  cf := some (fileOf pool3 2 #[] #[] 1537 4 #[] #[])
  fields := #[]
  methods := #[]
  instanceTypes := #[]
  staticTypes := #[]
  resolved := Array.replicate 8 none
  statics := none }

def pool4 : Array CpInfo := pool [(1, u "java/io/Serializable"), (0, .class_ 1), (0, u "java/lang/Object"), (0, .class_ 3)] 3

/-- java/io/Serializable -/
def k4 : Class := { plain "java/io/Serializable" (some 0) with
  accessFlags := 1537
  interfaces := #[]
  cf := some (fileOf pool4 2 #[] #[] 1537 4 #[] #[])
  fields := #[]
  methods := #[]
  instanceTypes := #[]
  staticTypes := #[]
  resolved := Array.replicate 8 none
  statics := none }

/-- the primitive byte -/
def k5 : Class := { plain "byte" none with kind := .primitive 'B', accessFlags := 0x411 }
/-- [B -/
def k6 : Class := { plain "[B" (some 0) with kind := .array 5 .byte, interfaces := #[3, 4], accessFlags := 1041 }

/-- the primitive int -/
def k7 : Class := { plain "int" none with kind := .primitive 'I', accessFlags := 0x411 }
/-- [I -/
def k8 : Class := { plain "[I" (some 0) with kind := .array 7 .int, interfaces := #[3, 4], accessFlags := 1041 }

/-- the primitive long -/
def k9 : Class := { plain "long" none with kind := .primitive 'J', accessFlags := 0x411 }
/-- [J -/
def k10 : Class := { plain "[J" (some 0) with kind := .array 9 .long, interfaces := #[3, 4], accessFlags := 1041 }

def heap : Heap := #[]
def classes : Array Class := #[k0, k1, k2, k3, k4, k5, k6, k7, k8, k9, k10]
def interned : List (Array UInt16 × Addr) := []
def slotsUsed : Nat := 0
def theMethod : MethodId := ⟨1, 1⟩
def args0 : Array Value := #[.int 5, .int 300]
def aboutOver (below : List Frame) : State where
  vm := { classes := classes, interned := interned.toArray }
  heap := heap
  slotsUsed := slotsUsed
  threads := #[{ frames := .invoking theMethod args0 :: below }]
def below0 : List Frame := [.native { method := ⟨0, 0⟩, args := #[] }]
def about1 : State := aboutOver below0
def p0 : Program := .bare "" "" ""
def e0 : Env := launch0.env 0 0 0
theorem w_frames : about1.frames = Frame.invoking theMethod args0 :: below0 := rfl
set_option maxRecDepth 65536 in
theorem w_args : argsFit about1.vm theMethod args0 = true := by decide +kernel
set_option maxRecDepth 65536 in
theorem w_heap : heapFits about1 = true := by decide +kernel
set_option maxRecDepth 65536 in
theorem w_runnable : about1.curStatus? = some .runnable := by decide +kernel
set_option maxRecDepth 65536 in
theorem w_alone : about1.alone = true := by decide +kernel
set_option maxRecDepth 65536 in
theorem w_named : about1.methodNamed? x = some theMethod := by decide +kernel
set_option maxRecDepth 65536 in
theorem w_hears : about1.hears theMethod below0 = true := by decide +kernel
set_option maxRecDepth 65536 in
theorem w_ripe : about1.ripe theMethod args0 below0 = true := by decide +kernel
theorem w_running : about1.status = .running := rfl
set_option maxRecDepth 65536 in
theorem w_room : about1.hasRoom e0.platform room_1 = true :=
  launch0.hasRoom_least _ room_1 (by decide +kernel) (by decide +kernel) (by decide +kernel) (by decide +kernel) (by decide +kernel) (by decide +kernel)
theorem allAtoms_all (ts : List Jvm.Cond) (a : Array Jvm.Value) (st : Jvm.State) : (allAtoms ts).before a st = ts.all (fun c => c.before a st) := by
  induction ts with
  | nil => rfl
  | cons c t ih =>
    show (Jvm.Cond.and c (allAtoms t)).before a st = _
    rw [Jvm.Cond.before_and, ih, List.all_cons]
def words1 : List Jvm.Cond := Jvm.Cond.code x code maxLocals ret :: tables_1
/-- a 'code' word, met by the world's own term for the bytes: nothing is compared byte by byte -/
theorem code_word {y : MethodName} {bytes : ByteArray} {mx : Nat} {rt : Option FieldType} {a : Array Value} {s : State} {m : MethodId} {meth : Method} {c : Code} (h1 : s.methodNamed? y = some m) (h2 : s.vm.method? m = some meth) (h3 : meth.code = some c) (h4 : c.code = bytes)
    (h5 : (c.maxLocals == mx && c.exceptionTable.isEmpty && decide (c.maxStack ≤ mostOperands) && decide (meth.sig.returnType = rt) && !meth.locks && decide (parseMethodDescriptor y.desc = some meth.sig)) = true) : (Jvm.Cond.code y bytes mx rt).before a s = true := by
  simp only [Bool.and_eq_true, beq_iff_eq, Bool.not_eq_true', decide_eq_true_eq] at h5
  obtain ⟨⟨⟨⟨⟨g1, g2⟩, g3⟩, g4⟩, g5⟩, g6⟩ := h5
  simp [Cond.before, Cond.holds, Cond.value, h1, h2, h3, h4, g1, g2, g3, g4, g5, g6]
def isCode : Jvm.Cond → Bool
  | .code _ _ _ _ => true
  | _ => false
theorem all_split {L : List Jvm.Cond} {P : Jvm.Cond → Bool} (h1 : L.all (fun c => isCode c || P c) = true) (h2 : ∀ c ∈ L.filter isCode, P c = true) : L.all P = true := by
  refine List.all_eq_true.mpr fun c hc => ?_
  have h := List.all_eq_true.mp h1 c hc
  rcases Bool.eq_false_or_eq_true (isCode c) with hi | hi
  · exact h2 c (List.mem_filter.mpr ⟨hc, hi⟩)
  · simpa [hi] using h
set_option maxRecDepth 65536 in
theorem w_c0 : (Jvm.Cond.code x code maxLocals ret).before args0 about1 = true := code_word (m := ⟨1, 1⟩) (meth := k1m1) (c := k1c1) (by decide +kernel) rfl rfl rfl (by decide +kernel)
set_option maxRecDepth 65536 in
theorem w_c1 : (Jvm.Cond.code ({ cls := "com/example/shuttlecourse/shuttlecourse/model/XmlChars", name := "isNameStart", desc := "(I)Z" } : Jvm.MethodName) prog_88_method_2_code (1 : Nat) (Option.some Jvm.ClassFile.FieldType.boolean)).before args0 about1 = true := code_word (m := ⟨2, 1⟩) (meth := k2m1) (c := k2c1) (by decide +kernel) rfl rfl rfl (by decide +kernel)
def codes1 : List Jvm.Cond := [Jvm.Cond.code x code maxLocals ret, Jvm.Cond.code ({ cls := "com/example/shuttlecourse/shuttlecourse/model/XmlChars", name := "isNameStart", desc := "(I)Z" } : Jvm.MethodName) prog_88_method_2_code (1 : Nat) (Option.some Jvm.ClassFile.FieldType.boolean)]
set_option maxRecDepth 65536 in
theorem codes_eq : words1.filter isCode = codes1 := rfl
theorem w_codes : ∀ c ∈ words1.filter isCode, c.before args0 about1 = true := by
  rw [codes_eq]
  intro c hc
  simp only [codes1, List.mem_cons, List.not_mem_nil, or_false] at hc
  rcases hc with rfl | rfl
  · exact w_c0
  · exact w_c1
set_option maxRecDepth 65536 in
theorem w_t1 : (words1.take 24).all (fun c => isCode c || c.before args0 about1) = true := by decide +kernel
set_option maxRecDepth 65536 in
theorem w_t2 : (words1.drop 24).all (fun c => isCode c || c.before args0 about1) = true := by decide +kernel
theorem w_tables : (allAtoms (Jvm.Cond.code x code maxLocals ret :: tables_1)).before args0 about1 = true := by
  rw [allAtoms_all]
  show words1.all (fun c => c.before args0 about1) = true
  refine all_split ?_ w_codes
  rw [← List.take_append_drop 24 words1, List.all_append, w_t1, w_t2]
  rfl
set_option maxRecDepth 65536 in
theorem w_case : (Jvm.Cond.and given_1 narrow_1).before args0 about1 = true := by decide +kernel
theorem w_applies : (headSpec (Jvm.Cond.code x code maxLocals ret :: tables_1) room_1).applies x e0.platform about1 = true :=
  (Spec.applies_iff w_frames).mpr ⟨w_running, w_runnable, w_alone, w_named, w_hears, w_ripe, w_room, w_tables⟩
theorem atStart : AtStart classFile x code maxLocals ret World_1 tables_1 room_1 Calls_1 rest_1 Pre_1 launch0 p0 e0 about1 theMethod args0 below0 :=
  ⟨lists_1, trivial, launch0.admits_env _ _ _, launch0.least_env, fairChoices_fair.cas, fairChoices_fair.clock, w_frames, w_args, w_heap, w_applies, trivial, trivial, w_case⟩
end start1
theorem witness_1 : WitnessClaimed_1 := ⟨start1.p0, start1.e0, start1.about1, start1.theMethod, start1.args0, start1.below0, start1.atStart⟩
end Jvm.Pilot.@@N@@
