import JvmDerived
import JvmDerived.Pilot.@@N@@Statement
import JvmDerived.Pilot.@@N@@Code
set_option linter.unusedVariables false
set_option linter.unusedSimpArgs false
namespace Jvm.Pilot.@@N@@
open Jvm Jvm.ClassFile Sem Op Lib Jvm.Free Jvm.Stand Jvm.LawKit Jvm.RoadKit Bundle Jvm.Pilot.@@N@@.Jvm.D
def Go (p : Program) (e : Env) (below : List Frame) (S : State) (P : State → Outcome → Prop) : Prop := ∃ t o, Steps p.tables e below S t ∧ P t o
abbrev Gm (p : Program) (e : Env) (below : List Frame) (T : State) (m : MethodId) (pc : Nat) (ls : Array Slot) (st : List Value) (P : State → Outcome → Prop) : Prop := Go p e below (T.setTop (mkF m pc ls st)) P
abbrev lv (x : Int64) : Slot := .val (.long x)
theorem own_in {p : Program} {e : Env} {below : List Frame} {T : State} {g g' : JFrame} {P : State → Outcome → Prop} (q : g = g') (h : Go p e below (T.setTop g') P) : ∃ s₂ o, Steps p.tables e below (T.setTop g) s₂ ∧ P s₂ o := q ▸ h
theorem own_go {p : Program} {e : Env} {below : List Frame} {S S' : State} {P : State → Outcome → Prop} (k : ∀ t, Steps p.tables e below S' t → Steps p.tables e below S t) (h : Go p e below S' P) : Go p e below S P := by
  obtain ⟨t, o, h1, h2⟩ := h
  exact ⟨t, o, k t h1, h2⟩
section Rets
variable {p : Program} {l : Launch} {e : Env} {R : Room} {s : State} {m : MethodId} {args : Array Value} {below : List Frame} {meth : Method} {c : Code} {T : State} {locs : List Loc} {cells slots : Nat}
theorem own_retI (X : Stand p l e R s m args below meth c T locs cells slots) (hx : p.tables.exec = Jvm.exec) (hlk : meth.locks = false) {pc : Nat} {Ls : Array Slot} {z : Int32} {t : FieldType} {Q : Option Value → Heap → List Loc → Prop} {C N : Nat} (hret : meth.sig.returnType = some t) (hn : narrow t (.int z) = .int z) (ht : t = .int ∨ t = .boolean ∨ t = .byte ∨ t = .char ∨ t = .short)
    (hd : decode c.code pc = .ok (.ireturn, 1)) {h : Heap} (eh : T.heap = h) (hq : Q (some (.int z)) h locs) (hC : cells ≤ C) (hN : slots ≤ N) : Go p e below (T.setTop (mkF m pc Ls [.int z])) (fun t o => t.status = .running ∧ Ended t below o ∧ ∃ v L, o = .returned v ∧ Q v t.heap L ∧ FrameEnd s o t L C N) := by
  subst eh
  obtain ⟨fs, hr, hrun, hended, hW, hsame⟩ := X.leave (v := some (.int z)) (fun h => by rw [hret] at h; cases h) hlk
  exact ⟨_, _, X.ireturnOut hx hret hn ht hd hr, hrun, hended, _, _, rfl, hq, ⟨_, rfl⟩, hW, hsame.mono hC hN⟩
theorem own_retL (X : Stand p l e R s m args below meth c T locs cells slots) (hx : p.tables.exec = Jvm.exec) (hlk : meth.locks = false) {pc : Nat} {Ls : Array Slot} {z : Int64} {Q : Option Value → Heap → List Loc → Prop} {C N : Nat} (hret : meth.sig.returnType = some .long)
    (hd : decode c.code pc = .ok (.lreturn, 1)) {h : Heap} (eh : T.heap = h) (hq : Q (some (.long z)) h locs) (hC : cells ≤ C) (hN : slots ≤ N) : Go p e below (T.setTop (mkF m pc Ls [.long z])) (fun t o => t.status = .running ∧ Ended t below o ∧ ∃ v L, o = .returned v ∧ Q v t.heap L ∧ FrameEnd s o t L C N) := by
  subst eh
  obtain ⟨fs, hr, hrun, hended, hW, hsame⟩ := X.leave (v := some (.long z)) (fun h => by rw [hret] at h; cases h) hlk
  exact ⟨_, _, X.lreturnOut hx hret hd hr, hrun, hended, _, _, rfl, hq, ⟨_, rfl⟩, hW, hsame.mono hC hN⟩
theorem own_retA (X : Stand p l e R s m args below meth c T locs cells slots) (hx : p.tables.exec = Jvm.exec) (hlk : meth.locks = false) {pc : Nat} {Ls : Array Slot} {w : Value} {t : FieldType} {Q : Option Value → Heap → List Loc → Prop} {C N : Nat} (hw : w.isRef = true) (hret : meth.sig.returnType = some t) (ht : t.isReference = true)
    (hd : decode c.code pc = .ok (.areturn, 1)) {h : Heap} (eh : T.heap = h) (hq : Q (some w) h locs) (hC : cells ≤ C) (hN : slots ≤ N) : Go p e below (T.setTop (mkF m pc Ls [w])) (fun t o => t.status = .running ∧ Ended t below o ∧ ∃ v L, o = .returned v ∧ Q v t.heap L ∧ FrameEnd s o t L C N) := by
  subst eh
  obtain ⟨fs, hr, hrun, hended, hW, hsame⟩ := X.leave (v := some w) (fun h => by rw [hret] at h; cases h) hlk
  exact ⟨_, _, X.areturnOut hx hw hret ht hd hr, hrun, hended, _, _, rfl, hq, ⟨_, rfl⟩, hW, hsame.mono hC hN⟩
theorem own_retV (X : Stand p l e R s m args below meth c T locs cells slots) (hx : p.tables.exec = Jvm.exec) (hlk : meth.locks = false) {pc : Nat} {Ls : Array Slot} {Q : Option Value → Heap → List Loc → Prop} {C N : Nat} (hret : meth.sig.returnType = none)
    (hd : decode c.code pc = .ok (.return_, 1)) {h : Heap} (eh : T.heap = h) (hq : Q none h locs) (hC : cells ≤ C) (hN : slots ≤ N) : Go p e below (T.setTop (mkF m pc Ls [])) (fun t o => t.status = .running ∧ Ended t below o ∧ ∃ v L, o = .returned v ∧ Q v t.heap L ∧ FrameEnd s o t L C N) := by
  subst eh
  obtain ⟨fs, hr, hrun, hended, hW, hsame⟩ := X.leave (v := none) (fun _ => rfl) hlk
  exact ⟨_, _, X.returnOut hx hret hd hr, hrun, hended, _, _, rfl, hq, ⟨_, rfl⟩, hW, hsame.mono hC hN⟩
end Rets
theorem own_eqI {args : Array Value} {first s : State} {o : Option Outcome} {idx : List Nat} {a : Term} {k : Int32} (h : (Jvm.Cond.eq a (.int k)).value args first o s idx = some true) : a.eval args first o idx s = some (.int k) := by
  cases ha : a.eval args first o idx s with
  | none => simp [Cond.value, ha, Term.eval] at h
  | some v => cases v <;> simp [Cond.value, ha, Term.eval] at h <;> first | (subst h; rfl) | (rw [h])

def Af (Z : State) (h : Heap) (a : Addr) (ty : FieldType) (n : Nat) (f : Nat → Value) : Prop := n < 2 ^ 31 ∧ ∃ c : Cell, Arr Z h a c ty ∧ c.slots.size = n ∧ ∀ i, i < n → c.slots[i]? = some (f i) ∧ fits ty (f i) = true
section AfS
variable {Z : State} {h h' : Heap} {a b : Addr} {ty : FieldType} {n : Nat} {f : Nat → Value} {v : Value} {sl : Nat} {ws : List Addr}
theorem Af.lt (A : Af Z h a ty n f) : a < h.size := by obtain ⟨-, c, A, -⟩ := A; exact A.lt
theorem Af.ext (A : Af Z h a ty n f) (E : Ext h h') : Af Z h' a ty n f := by obtain ⟨q, c, A, r⟩ := A; exact ⟨q, c, A.ext E, r⟩
theorem Af.other (A : Af Z h b ty n f) (W : Wr h h' a sl v) (q : b ≠ a) : Af Z h' b ty n f := by obtain ⟨q', c, A, r⟩ := A; exact ⟨q', c, A.other W q, r⟩
theorem Af.keep (A : Af Z h a ty n f) (K : Keep h h' ws) (q : a ∉ ws) : Af Z h' a ty n f := by obtain ⟨q', c, A, r⟩ := A; exact ⟨q', c, ⟨K.2.1 a c A.1 q, A.2⟩, r⟩
theorem Af.congr (A : Af Z h a ty n f) {g : Nat → Value} (q : ∀ i, i < n → g i = f i) : Af Z h a ty n g := by obtain ⟨q', c, A, r1, r2⟩ := A; exact ⟨q', c, A, r1, fun i hi => by rw [q i hi]; exact r2 i hi⟩
theorem Af.set (A : Af Z h a ty n f) (W : Wr h h' a sl v) (hv : fits ty v = true) : Af Z h' a ty n (fun i => if i = sl then v else f i) := by
  obtain ⟨q, c, A, r1, r2⟩ := A
  refine ⟨q, c.setSlot sl v, A.same W, by rw [sz_set]; exact r1, fun i hi => ?_⟩
  by_cases e : i = sl
  · subst e
    show _ = some (if i = i then v else f i) ∧ fits ty (if i = i then v else f i) = true
    rw [if_pos rfl]
    refine ⟨?_, hv⟩
    show (c.slots.setIfInBounds i v)[i]? = _
    rw [Array.getElem?_setIfInBounds_self_of_lt (by omega)]
  · show _ = some (if i = sl then v else f i) ∧ fits ty (if i = sl then v else f i) = true
    rw [if_neg e]
    refine ⟨?_, (r2 i hi).2⟩
    show (c.slots.setIfInBounds sl v)[i]? = _
    rw [Array.getElem?_setIfInBounds_ne (Ne.symm e)]
    exact (r2 i hi).1
theorem Af.new {k : ClassId} {z : Int32} (A : Arr Z h a (newA k ty z) ty) (q : ¬ z < 0) {n : Nat} (hn : z.toNatClampNeg = n) (hd : fits ty (defaultValue ty) = true) : Af Z h a ty n (fun _ => defaultValue ty) := by
  subst hn
  refine ⟨(back32 q).2, _, A, sz_new _ _ _, fun i hi => ⟨?_, hd⟩⟩
  simp [newA, hi]
theorem Af.arv (A : Af Z h a ty n f) (dv : Value) : ∃ k, Arv Z h a k ty n.toInt32 ((List.range n).map f) dv := by
  obtain ⟨q, c, A, r1, r2⟩ := A
  have hz : n.toInt32.toNatClampNeg = n := by
    show n.toInt32.toInt.toNat = n
    rw [len_toInt q]; rfl
  have hg : ∀ i, i < n → ((List.range n).map f).getD i dv = f i := fun i hi => by
    rw [List.getD_eq_getElem?_getD]; simp [hi]
  refine ⟨_, c, A, rfl, by rw [hz]; exact r1, ?_, fun i hi => ?_, fun i hi => ?_⟩
  · rw [Int32.lt_iff_toInt_lt, len_toInt q]; simp
  · rw [hg i (r1 ▸ hi)]; exact (r2 i (r1 ▸ hi)).1
  · rw [hg i (r1 ▸ hi)]; exact (r2 i (r1 ▸ hi)).2
theorem Af.ofArv {k : ClassId} {z : Int32} {vs : List Value} {dv : Value} (F : Arv Z h a k ty z vs dv) (hz : z.toNatClampNeg = n) (hf : ∀ i, i < n → f i = vs.getD i dv) : Af Z h a ty n f := by
  obtain ⟨c, A, -, S, q, H, G⟩ := F
  subst hz
  refine ⟨(back32 q).2, c, A, S, fun i hi => ?_⟩
  rw [hf i hi]
  exact ⟨H i (S ▸ hi), G i (S ▸ hi)⟩
theorem nat32 {n : Nat} (q : n < 2 ^ 31) : n.toInt32.toNatClampNeg = n := by
  show n.toInt32.toInt.toNat = n
  rw [len_toInt q]; rfl
theorem nn32 {n : Nat} (q : n < 2 ^ 31) : ¬ n.toInt32 < 0 := by rw [Int32.lt_iff_toInt_lt, len_toInt q]; simp
end AfS
section AfX
variable {p : Program} {l : Launch} {e : Env} {R : Room} {s : State} {m : MethodId} {args : Array Value} {below : List Frame} {meth : Method} {c : Code} {T : State} {locs : List Loc} {cells slots : Nat} {Z : State} {a0 : Array Value} {h : Heap} {a : Addr} {ty : FieldType} {n : Nat} {f : Nat → Value}
theorem own_len (X : Stand p l e R s m args below meth c T locs cells slots) (hx : p.tables.exec = Jvm.exec) (hZ : Z.Warmed39 s.vm) (eT : T.heap = h) (A : Af Z h a ty n f) {z : Int32} (hz : n.toInt32 = z) {g : JFrame} (hg : g.method = m) {rest : List Value} (hs : g.stack = .ref a :: rest) (hd : decode c.code g.pc = .ok (.arraylength, 1)) {target : State}
    (hr : Steps p.tables e below (T.setTop { g with pc := g.pc + 1, stack := .int z :: rest }) target) : Steps p.tables e below (T.setTop g) target := by
  obtain ⟨q, cl, A, r1, r2⟩ := A
  refine X.arraylength hx (by rw [eT]; exact A.1) (State.isArrayOf_alike hZ.alike A.2.1) hg hs hd _ ?_
  rw [r1, hz]; exact hr
theorem own_inb {cl : Cell} {j : Int32} {k : Nat} (r : cl.slots.size = n) (hj : ¬ j < 0) (hk : j.toNatClampNeg = k) (hkn : k < n) : ¬ (j < 0 ∨ cl.slots.size ≤ j.toNatClampNeg) := by
  rw [r, hk]; rintro (q | q)
  · exact hj q
  · omega
theorem own_ldI (X : Stand p l e R s m args below meth c T locs cells slots) (hx : p.tables.exec = Jvm.exec) (hZ : Z.Warmed39 s.vm) (eT : T.heap = h) (A : Af Z h a .int n f) {j : Int32} {k : Nat} (hj : ¬ j < 0) (hk : j.toNatClampNeg = k) (hkn : k < n) {w : Value} (hv : f k = w) {g : JFrame} (hg : g.method = m) {rest : List Value} (hs : g.stack = .int j :: .ref a :: rest) (hd : decode c.code g.pc = .ok (.iaload, 1)) {target : State}
    (hr : Steps p.tables e below (T.setTop { g with pc := g.pc + 1, stack := w :: rest }) target) : Steps p.tables e below (T.setTop g) target := by
  obtain ⟨q, cl, A, r1, r2⟩ := A
  exact X.iaload hx (by rw [eT]; exact A.1) (State.isArrayOf_alike hZ.alike A.2.1) A.2.2 (own_inb r1 hj hk hkn) (by rw [hk, (r2 k hkn).1, hv]) hg hs hd _ hr
theorem own_ldJ (X : Stand p l e R s m args below meth c T locs cells slots) (hx : p.tables.exec = Jvm.exec) (hZ : Z.Warmed39 s.vm) (eT : T.heap = h) (A : Af Z h a .long n f) {j : Int32} {k : Nat} (hj : ¬ j < 0) (hk : j.toNatClampNeg = k) (hkn : k < n) {w : Value} (hv : f k = w) {g : JFrame} (hg : g.method = m) {rest : List Value} (hs : g.stack = .int j :: .ref a :: rest) (hd : decode c.code g.pc = .ok (.laload, 1)) {target : State}
    (hr : Steps p.tables e below (T.setTop { g with pc := g.pc + 1, stack := w :: rest }) target) : Steps p.tables e below (T.setTop g) target := by
  obtain ⟨q, cl, A, r1, r2⟩ := A
  exact X.laload hx (by rw [eT]; exact A.1) (State.isArrayOf_alike hZ.alike A.2.1) A.2.2 (own_inb r1 hj hk hkn) (by rw [hk, (r2 k hkn).1, hv]) hg hs hd _ hr
theorem own_ldB (X : Stand p l e R s m args below meth c T locs cells slots) (hx : p.tables.exec = Jvm.exec) (hZ : Z.Warmed39 s.vm) (eT : T.heap = h) (A : Af Z h a .byte n f) {j : Int32} {k : Nat} (hj : ¬ j < 0) (hk : j.toNatClampNeg = k) (hkn : k < n) {w : Value} (hv : f k = w) {g : JFrame} (hg : g.method = m) {rest : List Value} (hs : g.stack = .int j :: .ref a :: rest) (hd : decode c.code g.pc = .ok (.baload, 1)) {target : State}
    (hr : Steps p.tables e below (T.setTop { g with pc := g.pc + 1, stack := w :: rest }) target) : Steps p.tables e below (T.setTop g) target := by
  obtain ⟨q, cl, A, r1, r2⟩ := A
  exact X.baloadBytes hx (by rw [eT]; exact A.1) (State.isArrayOf_alike hZ.alike A.2.1) A.2.2 (own_inb r1 hj hk hkn) (by rw [hk, (r2 k hkn).1, hv]) hg hs hd _ hr
theorem own_ldZ (X : Stand p l e R s m args below meth c T locs cells slots) (hx : p.tables.exec = Jvm.exec) (hZ : Z.Warmed39 s.vm) (eT : T.heap = h) (A : Af Z h a .boolean n f) {j : Int32} {k : Nat} (hj : ¬ j < 0) (hk : j.toNatClampNeg = k) (hkn : k < n) {w : Value} (hv : f k = w) {g : JFrame} (hg : g.method = m) {rest : List Value} (hs : g.stack = .int j :: .ref a :: rest) (hd : decode c.code g.pc = .ok (.baload, 1)) {target : State}
    (hr : Steps p.tables e below (T.setTop { g with pc := g.pc + 1, stack := w :: rest }) target) : Steps p.tables e below (T.setTop g) target := by
  obtain ⟨q, cl, A, r1, r2⟩ := A
  exact X.baloadBooleans hx (by rw [eT]; exact A.1) (State.isArrayOf_alike hZ.alike A.2.1) A.2.2 (own_inb r1 hj hk hkn) (by rw [hk, (r2 k hkn).1, hv]) hg hs hd _ hr
theorem own_stI (X : Stand p l e R s m args below meth c T locs cells slots) (hx : p.tables.exec = Jvm.exec) (hZ : Z.Warmed39 s.vm) (eT : T.heap = h) (A : Af Z h a .int n f) {j x : Int32} {k : Nat} (hj : ¬ j < 0) (hk : j.toNatClampNeg = k) (hkn : k < n) {g : JFrame} (hg : g.method = m) {rest : List Value} (hs : g.stack = .int x :: .int j :: .ref a :: rest) (hd : decode c.code g.pc = .ok (.iastore, 1)) :
    ∃ T' h', Stand p l e R s m args below meth c T' (locs ++ [⟨a, k⟩]) cells slots ∧ T'.heap = h' ∧ Wr h h' a k (.int x) ∧ Af Z h' a .int n (fun i => if i = k then .int x else f i) ∧ ∀ target, Steps p.tables e below (T'.setTop { g with pc := g.pc + 1, stack := rest }) target → Steps p.tables e below (T.setTop g) target := by
  obtain ⟨q, cl, B, r1, r2⟩ := id A
  obtain ⟨T', h', X', e', W, st⟩ := stI X hx hZ eT B (own_inb r1 hj hk hkn) hg hs hd
  rw [hk] at X' W
  exact ⟨T', h', X', e', W, A.set W rfl, st⟩
theorem own_stJ (X : Stand p l e R s m args below meth c T locs cells slots) (hx : p.tables.exec = Jvm.exec) (hZ : Z.Warmed39 s.vm) (eT : T.heap = h) (A : Af Z h a .long n f) {j : Int32} {x : Int64} {k : Nat} (hj : ¬ j < 0) (hk : j.toNatClampNeg = k) (hkn : k < n) {g : JFrame} (hg : g.method = m) {rest : List Value} (hs : g.stack = .long x :: .int j :: .ref a :: rest) (hd : decode c.code g.pc = .ok (.lastore, 1)) :
    ∃ T' h', Stand p l e R s m args below meth c T' (locs ++ [⟨a, k⟩]) cells slots ∧ T'.heap = h' ∧ Wr h h' a k (.long x) ∧ Af Z h' a .long n (fun i => if i = k then .long x else f i) ∧ ∀ target, Steps p.tables e below (T'.setTop { g with pc := g.pc + 1, stack := rest }) target → Steps p.tables e below (T.setTop g) target := by
  obtain ⟨q, cl, B, r1, r2⟩ := id A
  obtain ⟨T', h', X', e', W, st⟩ := stJ X hx hZ eT B (own_inb r1 hj hk hkn) hg hs hd
  rw [hk] at X' W
  exact ⟨T', h', X', e', W, A.set W rfl, st⟩
theorem own_stD (X : Stand p l e R s m args below meth c T locs cells slots) (hx : p.tables.exec = Jvm.exec) (hZ : Z.Warmed39 s.vm) (eT : T.heap = h) (A : Af Z h a .double n f) {j : Int32} {x : UInt64} {k : Nat} (hj : ¬ j < 0) (hk : j.toNatClampNeg = k) (hkn : k < n) {g : JFrame} (hg : g.method = m) {rest : List Value} (hs : g.stack = .double x :: .int j :: .ref a :: rest) (hd : decode c.code g.pc = .ok (.dastore, 1)) :
    ∃ T' h', Stand p l e R s m args below meth c T' (locs ++ [⟨a, k⟩]) cells slots ∧ T'.heap = h' ∧ Wr h h' a k (.double x) ∧ Af Z h' a .double n (fun i => if i = k then .double x else f i) ∧ ∀ target, Steps p.tables e below (T'.setTop { g with pc := g.pc + 1, stack := rest }) target → Steps p.tables e below (T.setTop g) target := by
  obtain ⟨q, cl, B, r1, r2⟩ := id A
  obtain ⟨T', h', X', e', W, st⟩ := stD X hx hZ eT B (own_inb r1 hj hk hkn) hg hs hd
  rw [hk] at X' W
  exact ⟨T', h', X', e', W, A.set W rfl, st⟩
theorem own_stZ (X : Stand p l e R s m args below meth c T locs cells slots) (hx : p.tables.exec = Jvm.exec) (hZ : Z.Warmed39 s.vm) (eT : T.heap = h) (A : Af Z h a .boolean n f) {j x y : Int32} {k : Nat} (hj : ¬ j < 0) (hk : j.toNatClampNeg = k) (hkn : k < n) (hy : nar .boolean x = y) {g : JFrame} (hg : g.method = m) {rest : List Value} (hs : g.stack = .int x :: .int j :: .ref a :: rest) (hd : decode c.code g.pc = .ok (.bastore, 1)) :
    ∃ T' h', Stand p l e R s m args below meth c T' (locs ++ [⟨a, k⟩]) cells slots ∧ T'.heap = h' ∧ Wr h h' a k (.int y) ∧ Af Z h' a .boolean n (fun i => if i = k then .int y else f i) ∧ ∀ target, Steps p.tables e below (T'.setTop { g with pc := g.pc + 1, stack := rest }) target → Steps p.tables e below (T.setTop g) target := by
  obtain ⟨q, cl, B, r1, r2⟩ := id A
  obtain ⟨T', h', X', e', W, st⟩ := stZ X hx hZ eT B (own_inb r1 hj hk hkn) hg hs hd
  subst hk hy
  exact ⟨T', h', X', e', W, A.set W (fits_nar_bool x), st⟩
theorem own_stB (X : Stand p l e R s m args below meth c T locs cells slots) (hx : p.tables.exec = Jvm.exec) (hZ : Z.Warmed39 s.vm) (eT : T.heap = h) (A : Af Z h a .byte n f) {j x y : Int32} {k : Nat} (hj : ¬ j < 0) (hk : j.toNatClampNeg = k) (hkn : k < n) (hy : nar .byte x = y) {g : JFrame} (hg : g.method = m) {rest : List Value} (hs : g.stack = .int x :: .int j :: .ref a :: rest) (hd : decode c.code g.pc = .ok (.bastore, 1)) :
    ∃ T' h', Stand p l e R s m args below meth c T' (locs ++ [⟨a, k⟩]) cells slots ∧ T'.heap = h' ∧ Wr h h' a k (.int y) ∧ Af Z h' a .byte n (fun i => if i = k then .int y else f i) ∧ ∀ target, Steps p.tables e below (T'.setTop { g with pc := g.pc + 1, stack := rest }) target → Steps p.tables e below (T.setTop g) target := by
  obtain ⟨q, cl, B, r1, r2⟩ := id A
  obtain ⟨T', h', X', e', W, st⟩ := stB X hx hZ eT B (own_inb r1 hj hk hkn) hg hs hd
  subst hk hy
  exact ⟨T', h', X', e', W, A.set W (fits_nar_byte x), st⟩
end AfX

theorem own_lenz {args : Array Value} {s : State} {t : Term} {a : Addr} {cl : Cell} {ty : FieldType} {z : Int32} {n : Nat} (h : (Term.length t).eval args s none [] s = some (.int z)) (ev : t.eval args s none [] s = some (.ref a)) (A : Arr s s.heap a cl ty) (hz : z.toNatClampNeg = n) : n < 2 ^ 31 ∧ cl.slots.size = n := by
  have hc : s.arrayAt? a = some cl := Arr.fin (Vm.Alike.refl _) A
  by_cases hn : cl.slots.size < 2 ^ 31
  · have q := (len_f (t := t) ev hc hn).symm.trans h
    have q' : cl.slots.size.toInt32 = z := by injection q with q; injection q
    have : cl.slots.size = n := by rw [← hz, ← q']; exact (nat32 hn).symm
    exact ⟨this ▸ hn, this⟩
  · exfalso
    obtain ⟨a', c', e1, e2, -⟩ := Term.length_spec h
    simp [Term.eval, ev, hc, hn] at h
theorem own_af {s : State} {a : Addr} {cl : Cell} {ty : FieldType} {n : Nat} (hf : Fit s) (A : Arr s s.heap a cl ty) (hn : n < 2 ^ 31 ∧ cl.slots.size = n) : Af s s.heap a ty n (fun i => (cl.slots[i]?).getD .null) := by
  refine ⟨hn.1, cl, A, hn.2, fun i hi => ?_⟩
  have hi' : i < cl.slots.size := by rw [hn.2]; exact hi
  have q := FitC.start hf A i _ (Array.getElem?_eq_getElem hi')
  have e : cl.slots[i]? = some cl.slots[i] := Array.getElem?_eq_getElem hi'
  show cl.slots[i]? = some ((cl.slots[i]?).getD .null) ∧ fits ty ((cl.slots[i]?).getD .null) = true
  rw [e]
  refine ⟨rfl, ?_⟩
  obtain ⟨hs, k, hk, comp, hkind⟩ := A.2.1
  have u : s.slotType? cl.cls .none i = some ty := by simp [State.slotType?, hk, hkind]
  simpa [State.fitsSlot, u] using q
theorem own_neq0 {args : Array Value} {first s : State} {o : Option Outcome} {idx : List Nat} {a : Term} (h : (Jvm.Cond.eq a (.int 0)).value args first o s idx = some false) (e : a.eval args first o idx s = some (.int 0)) : False := by
  simp [Cond.value, e, Term.int_eval] at h
def chOf (b : Int32) : Int32 := (b &&& (255 : Int32)).toUInt32.toUInt16.toUInt32.toInt32
theorem d10_0 : decode jdk_41_method_11_code 0 = .ok (.iload_n 0, 1) := by decide +kernel
theorem d10_1 : decode jdk_41_method_11_code 1 = .ok (.ifCond .lt 8, 3) := by decide +kernel
theorem d10_4 : decode jdk_41_method_11_code 4 = .ok (.iload_n 0, 1) := by decide +kernel
theorem d10_5 : decode jdk_41_method_11_code 5 = .ok (.iload_n 1, 1) := by decide +kernel
theorem d10_6 : decode jdk_41_method_11_code 6 = .ok (.if_icmp .lt 10, 3) := by decide +kernel
theorem d10_16 : decode jdk_41_method_11_code 16 = .ok (.iload_n 0, 1) := by decide +kernel
theorem d10_17 : decode jdk_41_method_11_code 17 = .ok (.ireturn, 1) := by decide +kernel
theorem own_pn_rm10 : plainName "jdk/internal/util/Preconditions" = true := by first | (simp [plainName, overriddenIn]; done) | decide +kernel
theorem own_ef_rm10 (m : MethodId) (p0 : Int32) (p1 : Int32) (r2 : Value) (hv_r2 : r2.isRef = true) : entryFrame m #[(.int p0), (.int p1), r2] 3 = mkF m 0 #[.val (.int p0), .val (.int p1), .val r2] [] := by rcases XT.refc hv_r2 with rfl | ⟨r, rfl⟩ <;> first | (simp [entryFrame, mkF, argsToLocals, Value.category]; done) | rfl
def Q10 (Z : State) (p0 : Int32) (p1 : Int32) (r2 : Value) (h0 : Heap) (n0 : Nat) (v : Option Value) (h : Heap) (L : List Loc) : Prop := v = some (.int p0) ∧ Fr n0 L ∧ h = h0
set_option maxRecDepth 65536 in
set_option maxHeartbeats 40000000 in
theorem rm10 (l : Launch) (Z : State) (a0 : Array Value) (hw : ∀ d ∈ tables_1, d.before a0 Z = true) (ws : List Jvm.Cond) (p0 : Int32) (p1 : Int32) (r2 : Value) (h0 : Heap) (n0 : Nat) (Z0 : n0 ≤ h0.size) (hv_r2 : r2.isRef = true) (hlo : ¬ p0 < 0) (hhi : p0 < p1) :
    MetFree l (⟨"jdk/internal/util/Preconditions", "checkIndex", "(IILjava/util/function/BiFunction;)I"⟩ : MethodName) (head1 (Jvm.Cond.code (⟨"jdk/internal/util/Preconditions", "checkIndex", "(IILjava/util/function/BiFunction;)I"⟩ : MethodName) jdk_41_method_11_code 3 (some .int) :: ws) ({ frames := 0, cells := 0, slots := 0, locals := 0 } : Room)) (fun a U => a = #[(.int p0), (.int p1), r2] ∧ Z.Warmed39 U.vm ∧ U.heap = h0) (fun _ _ _ _ _ => True) (fun _ U o U' => ∃ v L, o = .returned v ∧ Q10 Z p0 p1 r2 h0 n0 v U'.heap L ∧ FrameEnd U o U' L ({ frames := 0, cells := 0, slots := 0, locals := 0 } : Room).cells ({ frames := 0, cells := 0, slots := 0, locals := 0 } : Room).slots) := by
  refine MetFree.of_bodySF (plainFor_of_name own_pn_rm10) hisR ?_
  intro p e s m args below meth c s₁ Bd hml0 hP hK
  obtain ⟨rfl, hZ, hh⟩ := hP
  have hx := Bd.exec
  have hby := Bd.bytes
  have hml : c.maxLocals = 3 := hml0
  have hown : s.vm.findClass "jdk/internal/util/Preconditions" = some m.cls := findClass_of_methodNamed Bd.named
  have hnm := (name_of_methodNamed Bd.named Bd.method).1
  have hlk : meth.locks = false := BodyLoose.notSynchronized Bd
  have X0 : Stand p l e ({ frames := 0, cells := 0, slots := 0, locals := 0 } : Room) s m #[(.int p0), (.int p1), r2] below meth c s₁ [] 0 0 := Stand.of_body Bd
  have e0 : s₁.heap = h0 := by rw [← hh, Bd.state]; rfl
  have N0 := Fr.nil n0
  refine own_in (own_ef_rm10 m p0 p1 r2 hv_r2) ?_
  show Gm p e below s₁ m 0 #[iv p0, iv p1, .val r2] [] _
  refine own_go (fun t₀ k₀ => XS.iloadN X0.here hx rfl (Jvm.hb hby d10_0) rfl k₀) ?_
  show Gm p e below s₁ m 1 #[iv p0, iv p1, .val r2] [(.int p0)] _
  refine own_go (fun t₀ k₀ => XS.ifNo X0.here hx rfl (Jvm.hb hby d10_1) rfl (XT.i0_lt_f hlo) k₀) ?_
  show Gm p e below s₁ m 4 #[iv p0, iv p1, .val r2] [] _
  refine own_go (fun t₀ k₀ => XS.iloadN X0.here hx rfl (Jvm.hb hby d10_4) rfl k₀) ?_
  show Gm p e below s₁ m 5 #[iv p0, iv p1, .val r2] [(.int p0)] _
  refine own_go (fun t₀ k₀ => XS.iloadN X0.here hx rfl (Jvm.hb hby d10_5) rfl k₀) ?_
  show Gm p e below s₁ m 6 #[iv p0, iv p1, .val r2] [(.int p1), (.int p0)] _
  refine own_go (fun t₀ k₀ => XS.icmpYes X0.here hx rfl (pc0 := 6) (pc' := 16) rfl (Jvm.hb hby d10_6) rfl (XT.ii_lt_t hhi) (by decide) (by decide) k₀) ?_
  show Gm p e below s₁ m 16 #[iv p0, iv p1, .val r2] [] _
  refine own_go (fun t₀ k₀ => XS.iloadN X0.here hx rfl (Jvm.hb hby d10_16) rfl k₀) ?_
  show Gm p e below s₁ m 17 #[iv p0, iv p1, .val r2] [(.int p0)] _
  exact own_retI X0 hx hlk (t := .int) Bd.returns rfl (by simp) (Jvm.hb hby d10_17) e0 ⟨rfl, N0, rfl⟩ (by decide) (by decide)
theorem d9_0 : decode jdk_42_method_155_code 0 = .ok (.iload_n 0, 1) := by decide +kernel
theorem d9_1 : decode jdk_42_method_155_code 1 = .ok (.iload_n 1, 1) := by decide +kernel
theorem d9_2 : decode jdk_42_method_155_code 2 = .ok (.getstatic 1053, 3) := by decide +kernel
theorem d9_5 : decode jdk_42_method_155_code 5 = .ok (.invokestatic 1059, 3) := by decide +kernel
theorem d9_8 : decode jdk_42_method_155_code 8 = .ok (.pop, 1) := by decide +kernel
theorem d9_9 : decode jdk_42_method_155_code 9 = .ok (.return_, 1) := by decide +kernel
theorem own_pd0 : parseMethodDescriptor "(IILjava/util/function/BiFunction;)I" = some ⟨[.int, .int, (.object "java/util/function/BiFunction")], some .int⟩ := by decide +kernel
theorem own_pn_rm9 : plainName "java/lang/String" = true := by first | (simp [plainName, overriddenIn]; done) | decide +kernel
theorem own_ef_rm9 (m : MethodId) (p0 : Int32) (p1 : Int32) : entryFrame m #[(.int p0), (.int p1)] 2 = mkF m 0 #[.val (.int p0), .val (.int p1)] [] := by first | (simp [entryFrame, mkF, argsToLocals, Value.category]; done) | rfl
def Q9 (Z : State) (p0 : Int32) (p1 : Int32) (w : Value) (h0 : Heap) (n0 : Nat) (v : Option Value) (h : Heap) (L : List Loc) : Prop := v = none ∧ Fr n0 L ∧ h = h0
set_option maxRecDepth 65536 in
set_option maxHeartbeats 40000000 in
theorem rm9 (l : Launch) (Z : State) (a0 : Array Value) (hw : ∀ d ∈ tables_1, d.before a0 Z = true) (ws : List Jvm.Cond) (p0 : Int32) (p1 : Int32) (w : Value) (h0 : Heap) (n0 : Nat) (Z0 : n0 ≤ h0.size) (S_f : Sta Z h0 "jdk/internal/util/Preconditions" "SIOOBE_FORMATTER" "Ljava/util/function/BiFunction;" w) (hv_w : w.isRef = true) (hlo : ¬ p0 < 0) (hhi : p0 < p1) :
    MetFree l (⟨"java/lang/String", "checkIndex", "(II)V"⟩ : MethodName) (head1 (Jvm.Cond.code (⟨"java/lang/String", "checkIndex", "(II)V"⟩ : MethodName) jdk_42_method_155_code 2 none :: ws) ({ frames := 1, cells := 0, slots := 0, locals := 14 } : Room)) (fun a U => a = #[(.int p0), (.int p1)] ∧ Z.Warmed39 U.vm ∧ U.heap = h0) (fun _ _ _ _ _ => True) (fun _ U o U' => ∃ v L, o = .returned v ∧ Q9 Z p0 p1 w h0 n0 v U'.heap L ∧ FrameEnd U o U' L ({ frames := 1, cells := 0, slots := 0, locals := 14 } : Room).cells ({ frames := 1, cells := 0, slots := 0, locals := 14 } : Room).slots) := by
  refine MetFree.of_bodySF (plainFor_of_name own_pn_rm9) hisR ?_
  intro p e s m args below meth c s₁ Bd hml0 hP hK
  obtain ⟨rfl, hZ, hh⟩ := hP
  have hx := Bd.exec
  have hby := Bd.bytes
  have hml : c.maxLocals = 2 := hml0
  have hown : s.vm.findClass "java/lang/String" = some m.cls := findClass_of_methodNamed Bd.named
  have hnm := (name_of_methodNamed Bd.named Bd.method).1
  have hlk : meth.locks = false := BodyLoose.notSynchronized Bd
  have X0 : Stand p l e ({ frames := 1, cells := 0, slots := 0, locals := 14 } : Room) s m #[(.int p0), (.int p1)] below meth c s₁ [] 0 0 := Stand.of_body Bd
  have e0 : s₁.heap = h0 := by rw [← hh, Bd.state]; rfl
  have N0 := Fr.nil n0
  refine own_in (own_ef_rm9 m p0 p1) ?_
  show Gm p e below s₁ m 0 #[iv p0, iv p1] [] _
  refine own_go (fun t₀ k₀ => XS.iloadN X0.here hx rfl (Jvm.hb hby d9_0) rfl k₀) ?_
  show Gm p e below s₁ m 1 #[iv p0, iv p1] [(.int p0)] _
  refine own_go (fun t₀ k₀ => XS.iloadN X0.here hx rfl (Jvm.hb hby d9_1) rfl k₀) ?_
  show Gm p e below s₁ m 2 #[iv p0, iv p1] [(.int p1), (.int p0)] _
  obtain ⟨T1, X1, e1, st1⟩ := getS2 X0 hx hZ hown (host := "") (Or.inl (hw _ (List.mem_of_getElem? (i := 55) rfl))) Via.refl e0 S_f (g := (mkF m 2 #[iv p0, iv p1] [(.int p1), (.int p0)])) rfl (Jvm.hb hby d9_2)
  refine own_go st1 ?_
  show Gm p e below T1 m 5 #[iv p0, iv p1] [w, (.int p1), (.int p0)] _
  obtain ⟨_, _, ⟨T2, L2, k2, n2⟩, -, X2, ⟨Lc2, hQ2, l2, y2, z2⟩, st2⟩ := Jvm.LawKit.callS X1 hx (y := (⟨"jdk/internal/util/Preconditions", "checkIndex", "(IILjava/util/function/BiFunction;)I"⟩ : MethodName)) hown (mvT hZ (hw _ (List.mem_of_getElem? (i := 57) rfl))) (mvT hZ (hw _ (List.mem_of_getElem? (i := 58) rfl))) (mvT hZ (hw _ (List.mem_of_getElem? (i := 56) rfl))) (mvT hZ (hw _ (List.mem_of_getElem? (i := 59) rfl))) (by decide) (backOf (W := 0) (rm10 l Z a0 hw [] p0 p1 w h0 n0 Z0 hv_w hlo hhi) hZ (hw _ (List.mem_of_getElem? (i := 59) rfl)) (hw _ (List.mem_of_getElem? (i := 56) rfl)) (by decide) (by decide)) (g := (mkF m 5 #[iv p0, iv p1] [w, (.int p1), (.int p0)])) rfl (by rw [hml]; rfl) (argsL := [(.int p0), (.int p1), w]) (rest := []) (lenOf own_pd0 rfl) rfl (by show 2 * 0 + _ ≤ _; exact Nat.le_of_eq rfl) (Jvm.hb hby d9_5) (fun _ _ => ⟨rfl, e1, (by decide : 0 + 0 ≤ _), (by decide : 0 + 0 ≤ _)⟩)
  dsimp only [Pt.U, Pt.locs, Pt.cells, Pt.slots] at X2 l2 y2 z2 st2 hQ2
  subst l2 y2 z2
  obtain ⟨rfl, Nq2, eq2⟩ := hQ2
  have N2 := Fr.app N0 Nq2
  have e2 : T2.heap = h0 := eq2
  refine own_go st2 ?_
  show Gm p e below T2 m 8 #[iv p0, iv p1] [(.int p0)] _
  refine own_go (fun t₀ k₀ => XS.pop X2.here hx rfl (Jvm.hb hby d9_8) rfl rfl k₀) ?_
  show Gm p e below T2 m 9 #[iv p0, iv p1] [] _
  exact own_retV X2 hx hlk Bd.returns (Jvm.hb hby d9_9) e2 ⟨rfl, N2, rfl⟩ (by decide) (by decide)
theorem d8_0 : decode jdk_43_method_2_code 0 = .ok (.iload_n 1, 1) := by decide +kernel
theorem d8_1 : decode jdk_43_method_2_code 1 = .ok (.aload_n 0, 1) := by decide +kernel
theorem d8_2 : decode jdk_43_method_2_code 2 = .ok (.arraylength, 1) := by decide +kernel
theorem d8_3 : decode jdk_43_method_2_code 3 = .ok (.invokestatic 9, 3) := by decide +kernel
theorem d8_6 : decode jdk_43_method_2_code 6 = .ok (.aload_n 0, 1) := by decide +kernel
theorem d8_7 : decode jdk_43_method_2_code 7 = .ok (.iload_n 1, 1) := by decide +kernel
theorem d8_8 : decode jdk_43_method_2_code 8 = .ok (.baload, 1) := by decide +kernel
theorem d8_9 : decode jdk_43_method_2_code 9 = .ok (.sipush 255, 3) := by decide +kernel
theorem d8_12 : decode jdk_43_method_2_code 12 = .ok (.iand, 1) := by decide +kernel
theorem d8_13 : decode jdk_43_method_2_code 13 = .ok (.i2c, 1) := by decide +kernel
theorem d8_14 : decode jdk_43_method_2_code 14 = .ok (.ireturn, 1) := by decide +kernel
theorem own_pd1 : parseMethodDescriptor "(II)V" = some ⟨[.int, .int], none⟩ := by decide +kernel
theorem own_pn_rm8 : plainName "java/lang/StringLatin1" = true := by first | (simp [plainName, overriddenIn]; done) | decide +kernel
theorem own_ef_rm8 (m : MethodId) (r0 : Addr) (p1 : Int32) : entryFrame m #[(.ref r0), (.int p1)] 2 = mkF m 0 #[.val (.ref r0), .val (.int p1)] [] := by first | (simp [entryFrame, mkF, argsToLocals, Value.category]; done) | rfl
def Q8 (Z : State) (r0 : Addr) (p1 : Int32) (n : Nat) (f : Nat → Value) (b : Int32) (w : Value) (h0 : Heap) (n0 : Nat) (v : Option Value) (h : Heap) (L : List Loc) : Prop := v = some (.int (chOf b)) ∧ Fr n0 L ∧ h = h0
set_option maxRecDepth 65536 in
set_option maxHeartbeats 40000000 in
theorem rm8 (l : Launch) (Z : State) (a0 : Array Value) (hw : ∀ d ∈ tables_1, d.before a0 Z = true) (ws : List Jvm.Cond) (r0 : Addr) (p1 : Int32) (n : Nat) (f : Nat → Value) (b : Int32) (w : Value) (h0 : Heap) (n0 : Nat) (Z0 : n0 ≤ h0.size) (A : Af Z h0 r0 .byte n f) (hlo : ¬ p1 < 0) (hhi : p1 < n.toInt32) (hk : p1.toNatClampNeg < n) (hb : f p1.toNatClampNeg = .int b) (S_f : Sta Z h0 "jdk/internal/util/Preconditions" "SIOOBE_FORMATTER" "Ljava/util/function/BiFunction;" w) (hv_w : w.isRef = true) :
    MetFree l (⟨"java/lang/StringLatin1", "charAt", "([BI)C"⟩ : MethodName) (head1 (Jvm.Cond.code (⟨"java/lang/StringLatin1", "charAt", "([BI)C"⟩ : MethodName) jdk_43_method_2_code 2 (some .char) :: ws) ({ frames := 2, cells := 0, slots := 0, locals := 27 } : Room)) (fun a U => a = #[(.ref r0), (.int p1)] ∧ Z.Warmed39 U.vm ∧ U.heap = h0) (fun _ _ _ _ _ => True) (fun _ U o U' => ∃ v L, o = .returned v ∧ Q8 Z r0 p1 n f b w h0 n0 v U'.heap L ∧ FrameEnd U o U' L ({ frames := 2, cells := 0, slots := 0, locals := 27 } : Room).cells ({ frames := 2, cells := 0, slots := 0, locals := 27 } : Room).slots) := by
  refine MetFree.of_bodySF (plainFor_of_name own_pn_rm8) hisR ?_
  intro p e s m args below meth c s₁ Bd hml0 hP hK
  obtain ⟨rfl, hZ, hh⟩ := hP
  have hx := Bd.exec
  have hby := Bd.bytes
  have hml : c.maxLocals = 2 := hml0
  have hown : s.vm.findClass "java/lang/StringLatin1" = some m.cls := findClass_of_methodNamed Bd.named
  have hnm := (name_of_methodNamed Bd.named Bd.method).1
  have hlk : meth.locks = false := BodyLoose.notSynchronized Bd
  have X0 : Stand p l e ({ frames := 2, cells := 0, slots := 0, locals := 27 } : Room) s m #[(.ref r0), (.int p1)] below meth c s₁ [] 0 0 := Stand.of_body Bd
  have e0 : s₁.heap = h0 := by rw [← hh, Bd.state]; rfl
  have N0 := Fr.nil n0
  refine own_in (own_ef_rm8 m r0 p1) ?_
  show Gm p e below s₁ m 0 #[rv r0, iv p1] [] _
  refine own_go (fun t₀ k₀ => XS.iloadN X0.here hx rfl (Jvm.hb hby d8_0) rfl k₀) ?_
  show Gm p e below s₁ m 1 #[rv r0, iv p1] [(.int p1)] _
  refine own_go (fun t₀ k₀ => XS.aloadN X0.here hx rfl (Jvm.hb hby d8_1) rfl rfl k₀) ?_
  show Gm p e below s₁ m 2 #[rv r0, iv p1] [(.ref r0), (.int p1)] _
  refine own_go (fun t₀ k₀ => own_len X0 hx hZ e0 A (z := n.toInt32) rfl (g := (mkF m 2 #[rv r0, iv p1] [(.ref r0), (.int p1)])) rfl rfl (Jvm.hb hby d8_2) k₀) ?_
  show Gm p e below s₁ m 3 #[rv r0, iv p1] [(.int n.toInt32), (.int p1)] _
  obtain ⟨_, _, ⟨T1, L1, k1, n1⟩, -, X1, ⟨Lc1, hQ1, l1, y1, z1⟩, st1⟩ := Jvm.LawKit.callS X0 hx (y := (⟨"java/lang/String", "checkIndex", "(II)V"⟩ : MethodName)) hown (mvT hZ (hw _ (List.mem_of_getElem? (i := 52) rfl))) (mvT hZ (hw _ (List.mem_of_getElem? (i := 53) rfl))) (mvT hZ (hw _ (List.mem_of_getElem? (i := 36) rfl))) (mvT hZ (hw _ (List.mem_of_getElem? (i := 54) rfl))) (by decide) (backOf (W := 0) (rm9 l Z a0 hw [] p1 n.toInt32 w h0 n0 Z0 S_f hv_w hlo hhi) hZ (hw _ (List.mem_of_getElem? (i := 54) rfl)) (hw _ (List.mem_of_getElem? (i := 36) rfl)) (by decide) (by decide)) (g := (mkF m 3 #[rv r0, iv p1] [(.int n.toInt32), (.int p1)])) rfl (by rw [hml]; rfl) (argsL := [(.int p1), (.int n.toInt32)]) (rest := []) (lenOf own_pd1 rfl) rfl (by show 2 * 0 + _ ≤ _; exact Nat.le_of_eq rfl) (Jvm.hb hby d8_3) (fun _ _ => ⟨rfl, e0, (by decide : 0 + 0 ≤ _), (by decide : 0 + 0 ≤ _)⟩)
  dsimp only [Pt.U, Pt.locs, Pt.cells, Pt.slots] at X1 l1 y1 z1 st1 hQ1
  subst l1 y1 z1
  obtain ⟨rfl, Nq1, eq1⟩ := hQ1
  have N1 := Fr.app N0 Nq1
  have e1 : T1.heap = h0 := eq1
  refine own_go st1 ?_
  show Gm p e below T1 m 6 #[rv r0, iv p1] [] _
  refine own_go (fun t₀ k₀ => XS.aloadN X1.here hx rfl (Jvm.hb hby d8_6) rfl rfl k₀) ?_
  show Gm p e below T1 m 7 #[rv r0, iv p1] [(.ref r0)] _
  refine own_go (fun t₀ k₀ => XS.iloadN X1.here hx rfl (Jvm.hb hby d8_7) rfl k₀) ?_
  show Gm p e below T1 m 8 #[rv r0, iv p1] [(.int p1), (.ref r0)] _
  refine own_go (fun t₀ k₀ => own_ldB X1 hx hZ e1 A (j := p1) (k := p1.toNatClampNeg) hlo rfl hk (w := (.int b)) hb (g := (mkF m 8 #[rv r0, iv p1] [(.int p1), (.ref r0)])) rfl rfl (Jvm.hb hby d8_8) k₀) ?_
  show Gm p e below T1 m 9 #[rv r0, iv p1] [(.int b)] _
  refine own_go (fun t₀ k₀ => XS.sipush X1.here hx rfl (Jvm.hb hby d8_9) k₀) ?_
  show Gm p e below T1 m 12 #[rv r0, iv p1] [(.int (255 : Int32)), (.int b)] _
  refine own_go (fun t₀ k₀ => XS.iand X1.here hx rfl (Jvm.hb hby d8_12) rfl k₀) ?_
  show Gm p e below T1 m 13 #[rv r0, iv p1] [(.int (b &&& (255 : Int32)))] _
  refine own_go (fun t₀ k₀ => XS.i2c X1.here hx rfl (Jvm.hb hby d8_13) rfl k₀) ?_
  show Gm p e below T1 m 14 #[rv r0, iv p1] [(.int ((b &&& (255 : Int32)).toUInt32.toUInt16.toUInt32.toInt32))] _
  exact own_retI X1 hx hlk (t := .char) Bd.returns (XT.narrow_c _) (by simp) (Jvm.hb hby d8_14) e1 ⟨rfl, N1, rfl⟩ (by decide) (by decide)
theorem d7_0 : decode jdk_42_method_154_code 0 = .ok (.getstatic 38, 3) := by decide +kernel
theorem d7_3 : decode jdk_42_method_154_code 3 = .ok (.ifCond .eq 14, 3) := by decide +kernel
theorem d7_6 : decode jdk_42_method_154_code 6 = .ok (.aload_n 0, 1) := by decide +kernel
theorem d7_7 : decode jdk_42_method_154_code 7 = .ok (.getfield 15, 3) := by decide +kernel
theorem d7_10 : decode jdk_42_method_154_code 10 = .ok (.ifCond .ne 7, 3) := by decide +kernel
theorem d7_13 : decode jdk_42_method_154_code 13 = .ok (.iconst 1, 1) := by decide +kernel
theorem d7_14 : decode jdk_42_method_154_code 14 = .ok (.goto 4, 3) := by decide +kernel
theorem d7_18 : decode jdk_42_method_154_code 18 = .ok (.ireturn, 1) := by decide +kernel
theorem own_pn_rm7 : plainName "java/lang/String" = true := by first | (simp [plainName, overriddenIn]; done) | decide +kernel
theorem own_ef_rm7 (m : MethodId) (r0 : Addr) : entryFrame m #[(.ref r0)] 1 = mkF m 0 #[.val (.ref r0)] [] := by first | (simp [entryFrame, mkF, argsToLocals, Value.category]; done) | rfl
def Q7 (Z : State) (r0 : Addr) (cs : Int32) (h0 : Heap) (n0 : Nat) (v : Option Value) (h : Heap) (L : List Loc) : Prop := v = some (.int 1) ∧ Fr n0 L ∧ h = h0
set_option maxRecDepth 65536 in
set_option maxHeartbeats 40000000 in
theorem rm7 (l : Launch) (Z : State) (a0 : Array Value) (hw : ∀ d ∈ tables_1, d.before a0 Z = true) (ws : List Jvm.Cond) (r0 : Addr) (cs : Int32) (h0 : Heap) (n0 : Nat) (Z0 : n0 ≤ h0.size) (S_c : Sta Z h0 "java/lang/String" "COMPACT_STRINGS" "Z" (.int cs)) (hcs : ¬ cs = 0) (F_c : Fld Z h0 r0 "java/lang/String" "coder" "B" (.int (0 : Int32))) :
    MetFree l (⟨"java/lang/String", "isLatin1", "()Z"⟩ : MethodName) (head1 (Jvm.Cond.code (⟨"java/lang/String", "isLatin1", "()Z"⟩ : MethodName) jdk_42_method_154_code 1 (some .boolean) :: ws) ({ frames := 0, cells := 0, slots := 0, locals := 0 } : Room)) (fun a U => a = #[(.ref r0)] ∧ Z.Warmed39 U.vm ∧ U.heap = h0) (fun _ _ _ _ _ => True) (fun _ U o U' => ∃ v L, o = .returned v ∧ Q7 Z r0 cs h0 n0 v U'.heap L ∧ FrameEnd U o U' L ({ frames := 0, cells := 0, slots := 0, locals := 0 } : Room).cells ({ frames := 0, cells := 0, slots := 0, locals := 0 } : Room).slots) := by
  refine MetFree.of_bodySF (plainFor_of_name own_pn_rm7) hisR ?_
  intro p e s m args below meth c s₁ Bd hml0 hP hK
  obtain ⟨rfl, hZ, hh⟩ := hP
  have hx := Bd.exec
  have hby := Bd.bytes
  have hml : c.maxLocals = 1 := hml0
  have hown : s.vm.findClass "java/lang/String" = some m.cls := findClass_of_methodNamed Bd.named
  have hnm := (name_of_methodNamed Bd.named Bd.method).1
  have hlk : meth.locks = false := BodyLoose.notSynchronized Bd
  have X0 : Stand p l e ({ frames := 0, cells := 0, slots := 0, locals := 0 } : Room) s m #[(.ref r0)] below meth c s₁ [] 0 0 := Stand.of_body Bd
  have e0 : s₁.heap = h0 := by rw [← hh, Bd.state]; rfl
  have N0 := Fr.nil n0
  refine own_in (own_ef_rm7 m r0) ?_
  show Gm p e below s₁ m 0 #[rv r0] [] _
  obtain ⟨T1, X1, e1, st1⟩ := getS2 X0 hx hZ hown (host := "") (Or.inl (hw _ (List.mem_of_getElem? (i := 43) rfl))) Via.refl e0 S_c (g := (mkF m 0 #[rv r0] [])) rfl (Jvm.hb hby d7_0)
  refine own_go st1 ?_
  show Gm p e below T1 m 3 #[rv r0] [(.int cs)] _
  refine own_go (fun t₀ k₀ => XS.ifNo X1.here hx rfl (Jvm.hb hby d7_3) rfl (XT.i0_eq_f hcs) k₀) ?_
  show Gm p e below T1 m 6 #[rv r0] [] _
  refine own_go (fun t₀ k₀ => XS.aloadN X1.here hx rfl (Jvm.hb hby d7_6) rfl rfl k₀) ?_
  show Gm p e below T1 m 7 #[rv r0] [(.ref r0)] _
  obtain ⟨T2, X2, e2, st2⟩ := getF X1 hx hZ hown (host := "") (Or.inl (hw _ (List.mem_of_getElem? (i := 44) rfl))) Via.refl e1 F_c (g := (mkF m 7 #[rv r0] [(.ref r0)])) rfl rfl (Jvm.hb hby d7_7)
  refine own_go st2 ?_
  show Gm p e below T2 m 10 #[rv r0] [(.int (0 : Int32))] _
  refine own_go (fun t₀ k₀ => XS.ifNo X2.here hx rfl (Jvm.hb hby d7_10) rfl (XT.i0_ne_f (by decide)) k₀) ?_
  show Gm p e below T2 m 13 #[rv r0] [] _
  refine own_go (fun t₀ k₀ => XS.iconst X2.here hx rfl (Jvm.hb hby d7_13) k₀) ?_
  show Gm p e below T2 m 14 #[rv r0] [(.int (1 : Int32))] _
  refine own_go (fun t₀ k₀ => XS.goto X2.here hx rfl (pc0 := 14) (pc' := 18) rfl (Jvm.hb hby d7_14) (by decide) (by decide) k₀) ?_
  show Gm p e below T2 m 18 #[rv r0] [(.int (1 : Int32))] _
  exact own_retI X2 hx hlk (t := .boolean) Bd.returns rfl (by simp) (Jvm.hb hby d7_18) e2 ⟨rfl, N0, rfl⟩ (by decide) (by decide)
theorem d6_0 : decode jdk_42_method_56_code 0 = .ok (.aload_n 0, 1) := by decide +kernel
theorem d6_1 : decode jdk_42_method_56_code 1 = .ok (.invokevirtual 492, 3) := by decide +kernel
theorem d6_4 : decode jdk_42_method_56_code 4 = .ok (.ifCond .eq 12, 3) := by decide +kernel
theorem d6_7 : decode jdk_42_method_56_code 7 = .ok (.aload_n 0, 1) := by decide +kernel
theorem d6_8 : decode jdk_42_method_56_code 8 = .ok (.getfield 9, 3) := by decide +kernel
theorem d6_11 : decode jdk_42_method_56_code 11 = .ok (.iload_n 1, 1) := by decide +kernel
theorem d6_12 : decode jdk_42_method_56_code 12 = .ok (.invokestatic 495, 3) := by decide +kernel
theorem d6_15 : decode jdk_42_method_56_code 15 = .ok (.ireturn, 1) := by decide +kernel
theorem own_pd2 : parseMethodDescriptor "()Z" = some ⟨[], some .boolean⟩ := by decide +kernel
theorem own_pd3 : parseMethodDescriptor "([BI)C" = some ⟨[(.array .byte), .int], some .char⟩ := by decide +kernel
theorem own_pn_rm6 : plainName "java/lang/String" = true := by first | (simp [plainName, overriddenIn]; done) | decide +kernel
theorem own_ef_rm6 (m : MethodId) (r0 : Addr) (p1 : Int32) : entryFrame m #[(.ref r0), (.int p1)] 2 = mkF m 0 #[.val (.ref r0), .val (.int p1)] [] := by first | (simp [entryFrame, mkF, argsToLocals, Value.category]; done) | rfl
def Q6 (Z : State) (r0 : Addr) (p1 : Int32) (bv : Addr) (n : Nat) (f : Nat → Value) (b : Int32) (cs : Int32) (w : Value) (h0 : Heap) (n0 : Nat) (v : Option Value) (h : Heap) (L : List Loc) : Prop := v = some (.int (chOf b)) ∧ Fr n0 L ∧ h = h0
set_option maxRecDepth 65536 in
set_option maxHeartbeats 40000000 in
theorem rm6 (l : Launch) (Z : State) (a0 : Array Value) (hw : ∀ d ∈ tables_1, d.before a0 Z = true) (ws : List Jvm.Cond) (r0 : Addr) (p1 : Int32) (bv : Addr) (n : Nat) (f : Nat → Value) (b : Int32) (cs : Int32) (w : Value) (h0 : Heap) (n0 : Nat) (Z0 : n0 ≤ h0.size) (E_s : Exa Z h0 r0 "java/lang/String") (F_c : Fld Z h0 r0 "java/lang/String" "coder" "B" (.int (0 : Int32))) (F_v : Fld Z h0 r0 "java/lang/String" "value" "[B" (.ref bv)) (A : Af Z h0 bv .byte n f) (hlo : ¬ p1 < 0) (hhi : p1 < n.toInt32) (hk : p1.toNatClampNeg < n) (hb : f p1.toNatClampNeg = .int b) (S_c : Sta Z h0 "java/lang/String" "COMPACT_STRINGS" "Z" (.int cs)) (hcs : ¬ cs = 0) (S_f : Sta Z h0 "jdk/internal/util/Preconditions" "SIOOBE_FORMATTER" "Ljava/util/function/BiFunction;" w) (hv_w : w.isRef = true) :
    MetFree l (⟨"java/lang/String", "charAt", "(I)C"⟩ : MethodName) (head1 (Jvm.Cond.code (⟨"java/lang/String", "charAt", "(I)C"⟩ : MethodName) jdk_42_method_56_code 2 (some .char) :: ws) ({ frames := 3, cells := 0, slots := 0, locals := 40 } : Room)) (fun a U => a = #[(.ref r0), (.int p1)] ∧ Z.Warmed39 U.vm ∧ U.heap = h0) (fun _ _ _ _ _ => True) (fun _ U o U' => ∃ v L, o = .returned v ∧ Q6 Z r0 p1 bv n f b cs w h0 n0 v U'.heap L ∧ FrameEnd U o U' L ({ frames := 3, cells := 0, slots := 0, locals := 40 } : Room).cells ({ frames := 3, cells := 0, slots := 0, locals := 40 } : Room).slots) := by
  refine MetFree.of_bodySF (plainFor_of_name own_pn_rm6) hisR ?_
  intro p e s m args below meth c s₁ Bd hml0 hP hK
  obtain ⟨rfl, hZ, hh⟩ := hP
  have hx := Bd.exec
  have hby := Bd.bytes
  have hml : c.maxLocals = 2 := hml0
  have hown : s.vm.findClass "java/lang/String" = some m.cls := findClass_of_methodNamed Bd.named
  have hnm := (name_of_methodNamed Bd.named Bd.method).1
  have hlk : meth.locks = false := BodyLoose.notSynchronized Bd
  have X0 : Stand p l e ({ frames := 3, cells := 0, slots := 0, locals := 40 } : Room) s m #[(.ref r0), (.int p1)] below meth c s₁ [] 0 0 := Stand.of_body Bd
  have e0 : s₁.heap = h0 := by rw [← hh, Bd.state]; rfl
  have N0 := Fr.nil n0
  refine own_in (own_ef_rm6 m r0 p1) ?_
  show Gm p e below s₁ m 0 #[rv r0, iv p1] [] _
  refine own_go (fun t₀ k₀ => XS.aloadN X0.here hx rfl (Jvm.hb hby d6_0) rfl rfl k₀) ?_
  show Gm p e below s₁ m 1 #[rv r0, iv p1] [(.ref r0)] _
  obtain ⟨cq1, kq1, q1a, q1b, q1c⟩ := isOf hZ e0 E_s
  obtain ⟨_, _, ⟨T1, L1, k1, n1⟩, -, X1, ⟨Lc1, hQ1, l1, y1, z1⟩, st1⟩ := X0.virtualBack hx (y := (⟨"java/lang/String", "isLatin1", "()Z"⟩ : MethodName)) (z := (⟨"java/lang/String", "isLatin1", "()Z"⟩ : MethodName)) hown (mvT hZ (hw _ (List.mem_of_getElem? (i := 38) rfl))) (mvT hZ (hw _ (List.mem_of_getElem? (i := 39) rfl))) (notFace_of_selects (args := #[]) (mvT hZ (hw _ (List.mem_of_getElem? (i := 41) rfl)))) (mvT hZ (hw _ (List.mem_of_getElem? (i := 41) rfl))) (mvT hZ (hw _ (List.mem_of_getElem? (i := 40) rfl))) (by decide) (backOf (W := 0) (rm7 l Z a0 hw [] r0 cs h0 n0 Z0 S_c hcs F_c) hZ (hw _ (List.mem_of_getElem? (i := 42) rfl)) (hw _ (List.mem_of_getElem? (i := 36) rfl)) (by decide) (by decide)) q1a q1c (g := (mkF m 1 #[rv r0, iv p1] [(.ref r0)])) rfl (by rw [hml]; rfl) (Steps.refl _) (argsL := []) (rest := []) (lenOf own_pd2 rfl) rfl (by show 2 * 0 + _ ≤ _; exact Nat.le_of_eq rfl) (Jvm.hb hby d6_1) (fun _ _ => ⟨rfl, e0, (by decide : 0 + 0 ≤ _), (by decide : 0 + 0 ≤ _)⟩)
  dsimp only [Pt.U, Pt.locs, Pt.cells, Pt.slots] at X1 l1 y1 z1 st1 hQ1
  subst l1 y1 z1
  obtain ⟨rfl, Nq1, eq1⟩ := hQ1
  have N1 := Fr.app N0 Nq1
  have e1 : T1.heap = h0 := eq1
  refine own_go (fun t k => st1.trans k) ?_
  show Gm p e below T1 m 4 #[rv r0, iv p1] [(.int (1 : Int32))] _
  refine own_go (fun t₀ k₀ => XS.ifNo X1.here hx rfl (Jvm.hb hby d6_4) rfl (XT.i0_eq_f (by decide)) k₀) ?_
  show Gm p e below T1 m 7 #[rv r0, iv p1] [] _
  refine own_go (fun t₀ k₀ => XS.aloadN X1.here hx rfl (Jvm.hb hby d6_7) rfl rfl k₀) ?_
  show Gm p e below T1 m 8 #[rv r0, iv p1] [(.ref r0)] _
  obtain ⟨T2, X2, e2, st2⟩ := getF X1 hx hZ hown (host := "") (Or.inl (hw _ (List.mem_of_getElem? (i := 46) rfl))) Via.refl e1 F_v (g := (mkF m 8 #[rv r0, iv p1] [(.ref r0)])) rfl rfl (Jvm.hb hby d6_8)
  refine own_go st2 ?_
  show Gm p e below T2 m 11 #[rv r0, iv p1] [(.ref bv)] _
  refine own_go (fun t₀ k₀ => XS.iloadN X2.here hx rfl (Jvm.hb hby d6_11) rfl k₀) ?_
  show Gm p e below T2 m 12 #[rv r0, iv p1] [(.int p1), (.ref bv)] _
  obtain ⟨_, _, ⟨T3, L3, k3, n3⟩, -, X3, ⟨Lc3, hQ3, l3, y3, z3⟩, st3⟩ := Jvm.LawKit.callS X2 hx (y := (⟨"java/lang/StringLatin1", "charAt", "([BI)C"⟩ : MethodName)) hown (mvT hZ (hw _ (List.mem_of_getElem? (i := 48) rfl))) (mvT hZ (hw _ (List.mem_of_getElem? (i := 49) rfl))) (mvT hZ (hw _ (List.mem_of_getElem? (i := 50) rfl))) (mvT hZ (hw _ (List.mem_of_getElem? (i := 51) rfl))) (by decide) (backOf (W := 0) (rm8 l Z a0 hw [] bv p1 n f b w h0 n0 Z0 A hlo hhi hk hb S_f hv_w) hZ (hw _ (List.mem_of_getElem? (i := 51) rfl)) (hw _ (List.mem_of_getElem? (i := 50) rfl)) (by decide) (by decide)) (g := (mkF m 12 #[rv r0, iv p1] [(.int p1), (.ref bv)])) rfl (by rw [hml]; rfl) (argsL := [(.ref bv), (.int p1)]) (rest := []) (lenOf own_pd3 rfl) rfl (by show 2 * 0 + _ ≤ _; exact Nat.le_of_eq rfl) (Jvm.hb hby d6_12) (fun _ _ => ⟨rfl, e2, (by decide : 0 + 0 ≤ _), (by decide : 0 + 0 ≤ _)⟩)
  dsimp only [Pt.U, Pt.locs, Pt.cells, Pt.slots] at X3 l3 y3 z3 st3 hQ3
  subst l3 y3 z3
  obtain ⟨rfl, Nq3, eq3⟩ := hQ3
  have N3 := Fr.app N1 Nq3
  have e3 : T3.heap = h0 := eq3
  refine own_go st3 ?_
  show Gm p e below T3 m 15 #[rv r0, iv p1] [(.int (chOf b))] _
  exact own_retI X3 hx hlk (t := .char) Bd.returns (XT.narrow_c _) (by simp) (Jvm.hb hby d6_15) e3 ⟨rfl, N3, rfl⟩ (by decide) (by decide)

def TC (Z : State) (h : Heap) (t : Addr) (b : Int32) : Prop := Exa Z h t "com/example/outlay/outlay/nacha/TransactionCode" ∧ ∃ (st bv : Addr) (f : Nat → Value), Fld Z h t "com/example/outlay/outlay/nacha/TransactionCode" "code" "Ljava/lang/String;" (.ref st) ∧ Exa Z h st "java/lang/String" ∧ Fld Z h st "java/lang/String" "coder" "B" (.int (0 : Int32)) ∧ Fld Z h st "java/lang/String" "value" "[B" (.ref bv) ∧ Af Z h bv .byte 2 f ∧ f 1 = .int b
theorem d1_0 : decode method_2_code 0 = .ok (.iload_n 0, 1) := by decide +kernel
theorem d1_1 : decode method_2_code 1 = .ok (.iconst 3, 1) := by decide +kernel
theorem d1_2 : decode method_2_code 2 = .ok (.iand, 1) := by decide +kernel
theorem d1_3 : decode method_2_code 3 = .ok (.istore_n 1, 1) := by decide +kernel
theorem d1_4 : decode method_2_code 4 = .ok (.iload_n 1, 1) := by decide +kernel
theorem d1_5 : decode method_2_code 5 = .ok (.ifCond .ne 7, 3) := by decide +kernel
theorem d1_8 : decode method_2_code 8 = .ok (.getstatic 7, 3) := by decide +kernel
theorem d1_11 : decode method_2_code 11 = .ok (.areturn, 1) := by decide +kernel
theorem d1_12 : decode method_2_code 12 = .ok (.iload_n 1, 1) := by decide +kernel
theorem d1_13 : decode method_2_code 13 = .ok (.iconst 1, 1) := by decide +kernel
theorem d1_14 : decode method_2_code 14 = .ok (.if_icmp .ne 7, 3) := by decide +kernel
theorem d1_17 : decode method_2_code 17 = .ok (.getstatic 13, 3) := by decide +kernel
theorem d1_20 : decode method_2_code 20 = .ok (.areturn, 1) := by decide +kernel
theorem d1_21 : decode method_2_code 21 = .ok (.iload_n 1, 1) := by decide +kernel
theorem d1_22 : decode method_2_code 22 = .ok (.iconst 2, 1) := by decide +kernel
theorem d1_23 : decode method_2_code 23 = .ok (.if_icmp .ne 7, 3) := by decide +kernel
theorem d1_26 : decode method_2_code 26 = .ok (.getstatic 16, 3) := by decide +kernel
theorem d1_29 : decode method_2_code 29 = .ok (.areturn, 1) := by decide +kernel
theorem d1_30 : decode method_2_code 30 = .ok (.getstatic 19, 3) := by decide +kernel
theorem d1_33 : decode method_2_code 33 = .ok (.areturn, 1) := by decide +kernel
theorem own_pn_rm1 : plainName "com/example/outlay/outlay/nacha/ServiceClassHoldingPinLaw" = true := by first | (simp [plainName, overriddenIn]; done) | decide +kernel
theorem own_ef_rm1 (m : MethodId) (p0 : Int32) : entryFrame m #[(.int p0)] 2 = mkF m 0 #[.val (.int p0), .unset] [] := by first | (simp [entryFrame, mkF, argsToLocals, Value.category]; done) | rfl
def fC (p0 : Int32) (w0 : Addr) (w1 : Addr) (w2 : Addr) (w3 : Addr) : Addr := if (p0 &&& (3 : Int32)) = (0 : Int32) then w0 else (if (p0 &&& (3 : Int32)) = (1 : Int32) then w1 else (if (p0 &&& (3 : Int32)) = (2 : Int32) then w2 else (w3)))
def Q1 (Z : State) (p0 : Int32) (w0 : Addr) (w1 : Addr) (w2 : Addr) (w3 : Addr) (h0 : Heap) (n0 : Nat) (v : Option Value) (h : Heap) (L : List Loc) : Prop := v = some (.ref (fC p0 w0 w1 w2 w3)) ∧ Fr n0 L ∧ h = h0
set_option maxRecDepth 65536 in
set_option maxHeartbeats 40000000 in
theorem rm1 (l : Launch) (Z : State) (a0 : Array Value) (hw : ∀ d ∈ tables_1, d.before a0 Z = true) (ws : List Jvm.Cond) (p0 : Int32) (w0 : Addr) (w1 : Addr) (w2 : Addr) (w3 : Addr) (h0 : Heap) (n0 : Nat) (Z0 : n0 ≤ h0.size) (S_w0 : Sta Z h0 "com/example/outlay/outlay/nacha/TransactionCode" "CHECKING_CREDIT_RETURN" "Lcom/example/outlay/outlay/nacha/TransactionCode;" (.ref w0)) (S_w1 : Sta Z h0 "com/example/outlay/outlay/nacha/TransactionCode" "CHECKING_CREDIT" "Lcom/example/outlay/outlay/nacha/TransactionCode;" (.ref w1)) (S_w2 : Sta Z h0 "com/example/outlay/outlay/nacha/TransactionCode" "SAVINGS_CREDIT_RETURN" "Lcom/example/outlay/outlay/nacha/TransactionCode;" (.ref w2)) (S_w3 : Sta Z h0 "com/example/outlay/outlay/nacha/TransactionCode" "SAVINGS_CREDIT" "Lcom/example/outlay/outlay/nacha/TransactionCode;" (.ref w3)) :
    MetFree l (⟨"com/example/outlay/outlay/nacha/ServiceClassHoldingPinLaw", "creditCode", "(I)Lcom/example/outlay/outlay/nacha/TransactionCode;"⟩ : MethodName) (head1 (Jvm.Cond.code (⟨"com/example/outlay/outlay/nacha/ServiceClassHoldingPinLaw", "creditCode", "(I)Lcom/example/outlay/outlay/nacha/TransactionCode;"⟩ : MethodName) method_2_code 2 (some (.object "com/example/outlay/outlay/nacha/TransactionCode")) :: ws) ({ frames := 0, cells := 0, slots := 0, locals := 0 } : Room)) (fun a U => a = #[(.int p0)] ∧ Z.Warmed39 U.vm ∧ U.heap = h0) (fun _ _ _ _ _ => True) (fun _ U o U' => ∃ v L, o = .returned v ∧ Q1 Z p0 w0 w1 w2 w3 h0 n0 v U'.heap L ∧ FrameEnd U o U' L ({ frames := 0, cells := 0, slots := 0, locals := 0 } : Room).cells ({ frames := 0, cells := 0, slots := 0, locals := 0 } : Room).slots) := by
  refine MetFree.of_bodySF (plainFor_of_name own_pn_rm1) hisR ?_
  intro p e s m args below meth c s₁ Bd hml0 hP hK
  obtain ⟨rfl, hZ, hh⟩ := hP
  have hx := Bd.exec
  have hby := Bd.bytes
  have hml : c.maxLocals = 2 := hml0
  have hown : s.vm.findClass "com/example/outlay/outlay/nacha/ServiceClassHoldingPinLaw" = some m.cls := findClass_of_methodNamed Bd.named
  have hnm := (name_of_methodNamed Bd.named Bd.method).1
  have hlk : meth.locks = false := BodyLoose.notSynchronized Bd
  have X0 : Stand p l e ({ frames := 0, cells := 0, slots := 0, locals := 0 } : Room) s m #[(.int p0)] below meth c s₁ [] 0 0 := Stand.of_body Bd
  have e0 : s₁.heap = h0 := by rw [← hh, Bd.state]; rfl
  have N0 := Fr.nil n0
  refine own_in (own_ef_rm1 m p0) ?_
  show Gm p e below s₁ m 0 #[iv p0, .unset] [] _
  refine own_go (fun t₀ k₀ => XS.iloadN X0.here hx rfl (Jvm.hb hby d1_0) rfl k₀) ?_
  show Gm p e below s₁ m 1 #[iv p0, .unset] [(.int p0)] _
  refine own_go (fun t₀ k₀ => XS.iconst X0.here hx rfl (Jvm.hb hby d1_1) k₀) ?_
  show Gm p e below s₁ m 2 #[iv p0, .unset] [(.int (3 : Int32)), (.int p0)] _
  refine own_go (fun t₀ k₀ => XS.iand X0.here hx rfl (Jvm.hb hby d1_2) rfl k₀) ?_
  show Gm p e below s₁ m 3 #[iv p0, .unset] [(.int (p0 &&& (3 : Int32)))] _
  refine own_go (fun t₀ k₀ => XS.istoreN X0.here hx rfl (Jvm.hb hby d1_3) rfl (l' := #[iv p0, iv (p0 &&& (3 : Int32))]) rfl k₀) ?_
  show Gm p e below s₁ m 4 #[iv p0, iv (p0 &&& (3 : Int32))] [] _
  refine own_go (fun t₀ k₀ => XS.iloadN X0.here hx rfl (Jvm.hb hby d1_4) rfl k₀) ?_
  show Gm p e below s₁ m 5 #[iv p0, iv (p0 &&& (3 : Int32))] [(.int (p0 &&& (3 : Int32)))] _
  by_cases c1 : (p0 &&& (3 : Int32)) = (0 : Int32)
  · have hfork := trivial
    refine own_go (fun t₀ k₀ => XS.ifNo X0.here hx rfl (Jvm.hb hby d1_5) rfl (XT.i0_ne_f c1) k₀) ?_
    show Gm p e below s₁ m 8 #[iv p0, iv (p0 &&& (3 : Int32))] [] _
    obtain ⟨T2, X2, e2, st2⟩ := getS2 X0 hx hZ hown (host := "") (Or.inl (hw _ (List.mem_of_getElem? (i := 64) rfl))) Via.refl e0 S_w0 (g := (mkF m 8 #[iv p0, iv (p0 &&& (3 : Int32))] [])) rfl (Jvm.hb hby d1_8)
    refine own_go st2 ?_
    show Gm p e below T2 m 11 #[iv p0, iv (p0 &&& (3 : Int32))] [(.ref w0)] _
    exact own_retA X2 hx hlk rfl Bd.returns rfl (Jvm.hb hby d1_11) e2 ⟨(by unfold fC; rw [if_pos c1]), N0, rfl⟩ (by decide) (by decide)
  · have hfork := trivial
    refine own_go (fun t₀ k₀ => XS.ifYes X0.here hx rfl (pc0 := 5) (pc' := 12) rfl (Jvm.hb hby d1_5) rfl (XT.i0_ne_t c1) (by decide) (by decide) k₀) ?_
    show Gm p e below s₁ m 12 #[iv p0, iv (p0 &&& (3 : Int32))] [] _
    refine own_go (fun t₀ k₀ => XS.iloadN X0.here hx rfl (Jvm.hb hby d1_12) rfl k₀) ?_
    show Gm p e below s₁ m 13 #[iv p0, iv (p0 &&& (3 : Int32))] [(.int (p0 &&& (3 : Int32)))] _
    refine own_go (fun t₀ k₀ => XS.iconst X0.here hx rfl (Jvm.hb hby d1_13) k₀) ?_
    show Gm p e below s₁ m 14 #[iv p0, iv (p0 &&& (3 : Int32))] [(.int (1 : Int32)), (.int (p0 &&& (3 : Int32)))] _
    by_cases c3 : (p0 &&& (3 : Int32)) = (1 : Int32)
    · have hfork := trivial
      refine own_go (fun t₀ k₀ => XS.icmpNo X0.here hx rfl (Jvm.hb hby d1_14) rfl (XT.ii_ne_f c3) k₀) ?_
      show Gm p e below s₁ m 17 #[iv p0, iv (p0 &&& (3 : Int32))] [] _
      obtain ⟨T4, X4, e4, st4⟩ := getS2 X0 hx hZ hown (host := "") (Or.inl (hw _ (List.mem_of_getElem? (i := 62) rfl))) Via.refl e0 S_w1 (g := (mkF m 17 #[iv p0, iv (p0 &&& (3 : Int32))] [])) rfl (Jvm.hb hby d1_17)
      refine own_go st4 ?_
      show Gm p e below T4 m 20 #[iv p0, iv (p0 &&& (3 : Int32))] [(.ref w1)] _
      exact own_retA X4 hx hlk rfl Bd.returns rfl (Jvm.hb hby d1_20) e4 ⟨(by unfold fC; rw [if_neg c1, if_pos c3]), N0, rfl⟩ (by decide) (by decide)
    · have hfork := trivial
      refine own_go (fun t₀ k₀ => XS.icmpYes X0.here hx rfl (pc0 := 14) (pc' := 21) rfl (Jvm.hb hby d1_14) rfl (XT.ii_ne_t c3) (by decide) (by decide) k₀) ?_
      show Gm p e below s₁ m 21 #[iv p0, iv (p0 &&& (3 : Int32))] [] _
      refine own_go (fun t₀ k₀ => XS.iloadN X0.here hx rfl (Jvm.hb hby d1_21) rfl k₀) ?_
      show Gm p e below s₁ m 22 #[iv p0, iv (p0 &&& (3 : Int32))] [(.int (p0 &&& (3 : Int32)))] _
      refine own_go (fun t₀ k₀ => XS.iconst X0.here hx rfl (Jvm.hb hby d1_22) k₀) ?_
      show Gm p e below s₁ m 23 #[iv p0, iv (p0 &&& (3 : Int32))] [(.int (2 : Int32)), (.int (p0 &&& (3 : Int32)))] _
      by_cases c5 : (p0 &&& (3 : Int32)) = (2 : Int32)
      · have hfork := trivial
        refine own_go (fun t₀ k₀ => XS.icmpNo X0.here hx rfl (Jvm.hb hby d1_23) rfl (XT.ii_ne_f c5) k₀) ?_
        show Gm p e below s₁ m 26 #[iv p0, iv (p0 &&& (3 : Int32))] [] _
        obtain ⟨T6, X6, e6, st6⟩ := getS2 X0 hx hZ hown (host := "") (Or.inl (hw _ (List.mem_of_getElem? (i := 70) rfl))) Via.refl e0 S_w2 (g := (mkF m 26 #[iv p0, iv (p0 &&& (3 : Int32))] [])) rfl (Jvm.hb hby d1_26)
        refine own_go st6 ?_
        show Gm p e below T6 m 29 #[iv p0, iv (p0 &&& (3 : Int32))] [(.ref w2)] _
        exact own_retA X6 hx hlk rfl Bd.returns rfl (Jvm.hb hby d1_29) e6 ⟨(by unfold fC; rw [if_neg c1, if_neg c3, if_pos c5]), N0, rfl⟩ (by decide) (by decide)
      · have hfork := trivial
        refine own_go (fun t₀ k₀ => XS.icmpYes X0.here hx rfl (pc0 := 23) (pc' := 30) rfl (Jvm.hb hby d1_23) rfl (XT.ii_ne_t c5) (by decide) (by decide) k₀) ?_
        show Gm p e below s₁ m 30 #[iv p0, iv (p0 &&& (3 : Int32))] [] _
        obtain ⟨T7, X7, e7, st7⟩ := getS2 X0 hx hZ hown (host := "") (Or.inl (hw _ (List.mem_of_getElem? (i := 4) rfl))) Via.refl e0 S_w3 (g := (mkF m 30 #[iv p0, iv (p0 &&& (3 : Int32))] [])) rfl (Jvm.hb hby d1_30)
        refine own_go st7 ?_
        show Gm p e below T7 m 33 #[iv p0, iv (p0 &&& (3 : Int32))] [(.ref w3)] _
        exact own_retA X7 hx hlk rfl Bd.returns rfl (Jvm.hb hby d1_33) e7 ⟨(by unfold fC; rw [if_neg c1, if_neg c3, if_neg c5]), N0, rfl⟩ (by decide) (by decide)
theorem d2_0 : decode method_3_code 0 = .ok (.iload_n 0, 1) := by decide +kernel
theorem d2_1 : decode method_3_code 1 = .ok (.iconst 3, 1) := by decide +kernel
theorem d2_2 : decode method_3_code 2 = .ok (.iand, 1) := by decide +kernel
theorem d2_3 : decode method_3_code 3 = .ok (.istore_n 1, 1) := by decide +kernel
theorem d2_4 : decode method_3_code 4 = .ok (.iload_n 1, 1) := by decide +kernel
theorem d2_5 : decode method_3_code 5 = .ok (.ifCond .ne 7, 3) := by decide +kernel
theorem d2_8 : decode method_3_code 8 = .ok (.getstatic 22, 3) := by decide +kernel
theorem d2_11 : decode method_3_code 11 = .ok (.areturn, 1) := by decide +kernel
theorem d2_12 : decode method_3_code 12 = .ok (.iload_n 1, 1) := by decide +kernel
theorem d2_13 : decode method_3_code 13 = .ok (.iconst 1, 1) := by decide +kernel
theorem d2_14 : decode method_3_code 14 = .ok (.if_icmp .ne 7, 3) := by decide +kernel
theorem d2_17 : decode method_3_code 17 = .ok (.getstatic 25, 3) := by decide +kernel
theorem d2_20 : decode method_3_code 20 = .ok (.areturn, 1) := by decide +kernel
theorem d2_21 : decode method_3_code 21 = .ok (.iload_n 1, 1) := by decide +kernel
theorem d2_22 : decode method_3_code 22 = .ok (.iconst 2, 1) := by decide +kernel
theorem d2_23 : decode method_3_code 23 = .ok (.if_icmp .ne 7, 3) := by decide +kernel
theorem d2_26 : decode method_3_code 26 = .ok (.getstatic 28, 3) := by decide +kernel
theorem d2_29 : decode method_3_code 29 = .ok (.areturn, 1) := by decide +kernel
theorem d2_30 : decode method_3_code 30 = .ok (.getstatic 31, 3) := by decide +kernel
theorem d2_33 : decode method_3_code 33 = .ok (.areturn, 1) := by decide +kernel
theorem own_pn_rm2 : plainName "com/example/outlay/outlay/nacha/ServiceClassHoldingPinLaw" = true := by first | (simp [plainName, overriddenIn]; done) | decide +kernel
theorem own_ef_rm2 (m : MethodId) (p0 : Int32) : entryFrame m #[(.int p0)] 2 = mkF m 0 #[.val (.int p0), .unset] [] := by first | (simp [entryFrame, mkF, argsToLocals, Value.category]; done) | rfl
def fB (p0 : Int32) (w4 : Addr) (w5 : Addr) (w6 : Addr) (w7 : Addr) : Addr := if (p0 &&& (3 : Int32)) = (0 : Int32) then w4 else (if (p0 &&& (3 : Int32)) = (1 : Int32) then w5 else (if (p0 &&& (3 : Int32)) = (2 : Int32) then w6 else (w7)))
def Q2 (Z : State) (p0 : Int32) (w4 : Addr) (w5 : Addr) (w6 : Addr) (w7 : Addr) (h0 : Heap) (n0 : Nat) (v : Option Value) (h : Heap) (L : List Loc) : Prop := v = some (.ref (fB p0 w4 w5 w6 w7)) ∧ Fr n0 L ∧ h = h0
set_option maxRecDepth 65536 in
set_option maxHeartbeats 40000000 in
theorem rm2 (l : Launch) (Z : State) (a0 : Array Value) (hw : ∀ d ∈ tables_1, d.before a0 Z = true) (ws : List Jvm.Cond) (p0 : Int32) (w4 : Addr) (w5 : Addr) (w6 : Addr) (w7 : Addr) (h0 : Heap) (n0 : Nat) (Z0 : n0 ≤ h0.size) (S_w4 : Sta Z h0 "com/example/outlay/outlay/nacha/TransactionCode" "CHECKING_DEBIT_RETURN" "Lcom/example/outlay/outlay/nacha/TransactionCode;" (.ref w4)) (S_w5 : Sta Z h0 "com/example/outlay/outlay/nacha/TransactionCode" "CHECKING_DEBIT" "Lcom/example/outlay/outlay/nacha/TransactionCode;" (.ref w5)) (S_w6 : Sta Z h0 "com/example/outlay/outlay/nacha/TransactionCode" "SAVINGS_DEBIT_RETURN" "Lcom/example/outlay/outlay/nacha/TransactionCode;" (.ref w6)) (S_w7 : Sta Z h0 "com/example/outlay/outlay/nacha/TransactionCode" "SAVINGS_DEBIT" "Lcom/example/outlay/outlay/nacha/TransactionCode;" (.ref w7)) :
    MetFree l (⟨"com/example/outlay/outlay/nacha/ServiceClassHoldingPinLaw", "debitCode", "(I)Lcom/example/outlay/outlay/nacha/TransactionCode;"⟩ : MethodName) (head1 (Jvm.Cond.code (⟨"com/example/outlay/outlay/nacha/ServiceClassHoldingPinLaw", "debitCode", "(I)Lcom/example/outlay/outlay/nacha/TransactionCode;"⟩ : MethodName) method_3_code 2 (some (.object "com/example/outlay/outlay/nacha/TransactionCode")) :: ws) ({ frames := 0, cells := 0, slots := 0, locals := 0 } : Room)) (fun a U => a = #[(.int p0)] ∧ Z.Warmed39 U.vm ∧ U.heap = h0) (fun _ _ _ _ _ => True) (fun _ U o U' => ∃ v L, o = .returned v ∧ Q2 Z p0 w4 w5 w6 w7 h0 n0 v U'.heap L ∧ FrameEnd U o U' L ({ frames := 0, cells := 0, slots := 0, locals := 0 } : Room).cells ({ frames := 0, cells := 0, slots := 0, locals := 0 } : Room).slots) := by
  refine MetFree.of_bodySF (plainFor_of_name own_pn_rm2) hisR ?_
  intro p e s m args below meth c s₁ Bd hml0 hP hK
  obtain ⟨rfl, hZ, hh⟩ := hP
  have hx := Bd.exec
  have hby := Bd.bytes
  have hml : c.maxLocals = 2 := hml0
  have hown : s.vm.findClass "com/example/outlay/outlay/nacha/ServiceClassHoldingPinLaw" = some m.cls := findClass_of_methodNamed Bd.named
  have hnm := (name_of_methodNamed Bd.named Bd.method).1
  have hlk : meth.locks = false := BodyLoose.notSynchronized Bd
  have X0 : Stand p l e ({ frames := 0, cells := 0, slots := 0, locals := 0 } : Room) s m #[(.int p0)] below meth c s₁ [] 0 0 := Stand.of_body Bd
  have e0 : s₁.heap = h0 := by rw [← hh, Bd.state]; rfl
  have N0 := Fr.nil n0
  refine own_in (own_ef_rm2 m p0) ?_
  show Gm p e below s₁ m 0 #[iv p0, .unset] [] _
  refine own_go (fun t₀ k₀ => XS.iloadN X0.here hx rfl (Jvm.hb hby d2_0) rfl k₀) ?_
  show Gm p e below s₁ m 1 #[iv p0, .unset] [(.int p0)] _
  refine own_go (fun t₀ k₀ => XS.iconst X0.here hx rfl (Jvm.hb hby d2_1) k₀) ?_
  show Gm p e below s₁ m 2 #[iv p0, .unset] [(.int (3 : Int32)), (.int p0)] _
  refine own_go (fun t₀ k₀ => XS.iand X0.here hx rfl (Jvm.hb hby d2_2) rfl k₀) ?_
  show Gm p e below s₁ m 3 #[iv p0, .unset] [(.int (p0 &&& (3 : Int32)))] _
  refine own_go (fun t₀ k₀ => XS.istoreN X0.here hx rfl (Jvm.hb hby d2_3) rfl (l' := #[iv p0, iv (p0 &&& (3 : Int32))]) rfl k₀) ?_
  show Gm p e below s₁ m 4 #[iv p0, iv (p0 &&& (3 : Int32))] [] _
  refine own_go (fun t₀ k₀ => XS.iloadN X0.here hx rfl (Jvm.hb hby d2_4) rfl k₀) ?_
  show Gm p e below s₁ m 5 #[iv p0, iv (p0 &&& (3 : Int32))] [(.int (p0 &&& (3 : Int32)))] _
  by_cases c1 : (p0 &&& (3 : Int32)) = (0 : Int32)
  · have hfork := trivial
    refine own_go (fun t₀ k₀ => XS.ifNo X0.here hx rfl (Jvm.hb hby d2_5) rfl (XT.i0_ne_f c1) k₀) ?_
    show Gm p e below s₁ m 8 #[iv p0, iv (p0 &&& (3 : Int32))] [] _
    obtain ⟨T2, X2, e2, st2⟩ := getS2 X0 hx hZ hown (host := "") (Or.inl (hw _ (List.mem_of_getElem? (i := 10) rfl))) Via.refl e0 S_w4 (g := (mkF m 8 #[iv p0, iv (p0 &&& (3 : Int32))] [])) rfl (Jvm.hb hby d2_8)
    refine own_go st2 ?_
    show Gm p e below T2 m 11 #[iv p0, iv (p0 &&& (3 : Int32))] [(.ref w4)] _
    exact own_retA X2 hx hlk rfl Bd.returns rfl (Jvm.hb hby d2_11) e2 ⟨(by unfold fB; rw [if_pos c1]), N0, rfl⟩ (by decide) (by decide)
  · have hfork := trivial
    refine own_go (fun t₀ k₀ => XS.ifYes X0.here hx rfl (pc0 := 5) (pc' := 12) rfl (Jvm.hb hby d2_5) rfl (XT.i0_ne_t c1) (by decide) (by decide) k₀) ?_
    show Gm p e below s₁ m 12 #[iv p0, iv (p0 &&& (3 : Int32))] [] _
    refine own_go (fun t₀ k₀ => XS.iloadN X0.here hx rfl (Jvm.hb hby d2_12) rfl k₀) ?_
    show Gm p e below s₁ m 13 #[iv p0, iv (p0 &&& (3 : Int32))] [(.int (p0 &&& (3 : Int32)))] _
    refine own_go (fun t₀ k₀ => XS.iconst X0.here hx rfl (Jvm.hb hby d2_13) k₀) ?_
    show Gm p e below s₁ m 14 #[iv p0, iv (p0 &&& (3 : Int32))] [(.int (1 : Int32)), (.int (p0 &&& (3 : Int32)))] _
    by_cases c3 : (p0 &&& (3 : Int32)) = (1 : Int32)
    · have hfork := trivial
      refine own_go (fun t₀ k₀ => XS.icmpNo X0.here hx rfl (Jvm.hb hby d2_14) rfl (XT.ii_ne_f c3) k₀) ?_
      show Gm p e below s₁ m 17 #[iv p0, iv (p0 &&& (3 : Int32))] [] _
      obtain ⟨T4, X4, e4, st4⟩ := getS2 X0 hx hZ hown (host := "") (Or.inl (hw _ (List.mem_of_getElem? (i := 66) rfl))) Via.refl e0 S_w5 (g := (mkF m 17 #[iv p0, iv (p0 &&& (3 : Int32))] [])) rfl (Jvm.hb hby d2_17)
      refine own_go st4 ?_
      show Gm p e below T4 m 20 #[iv p0, iv (p0 &&& (3 : Int32))] [(.ref w5)] _
      exact own_retA X4 hx hlk rfl Bd.returns rfl (Jvm.hb hby d2_20) e4 ⟨(by unfold fB; rw [if_neg c1, if_pos c3]), N0, rfl⟩ (by decide) (by decide)
    · have hfork := trivial
      refine own_go (fun t₀ k₀ => XS.icmpYes X0.here hx rfl (pc0 := 14) (pc' := 21) rfl (Jvm.hb hby d2_14) rfl (XT.ii_ne_t c3) (by decide) (by decide) k₀) ?_
      show Gm p e below s₁ m 21 #[iv p0, iv (p0 &&& (3 : Int32))] [] _
      refine own_go (fun t₀ k₀ => XS.iloadN X0.here hx rfl (Jvm.hb hby d2_21) rfl k₀) ?_
      show Gm p e below s₁ m 22 #[iv p0, iv (p0 &&& (3 : Int32))] [(.int (p0 &&& (3 : Int32)))] _
      refine own_go (fun t₀ k₀ => XS.iconst X0.here hx rfl (Jvm.hb hby d2_22) k₀) ?_
      show Gm p e below s₁ m 23 #[iv p0, iv (p0 &&& (3 : Int32))] [(.int (2 : Int32)), (.int (p0 &&& (3 : Int32)))] _
      by_cases c5 : (p0 &&& (3 : Int32)) = (2 : Int32)
      · have hfork := trivial
        refine own_go (fun t₀ k₀ => XS.icmpNo X0.here hx rfl (Jvm.hb hby d2_23) rfl (XT.ii_ne_f c5) k₀) ?_
        show Gm p e below s₁ m 26 #[iv p0, iv (p0 &&& (3 : Int32))] [] _
        obtain ⟨T6, X6, e6, st6⟩ := getS2 X0 hx hZ hown (host := "") (Or.inl (hw _ (List.mem_of_getElem? (i := 72) rfl))) Via.refl e0 S_w6 (g := (mkF m 26 #[iv p0, iv (p0 &&& (3 : Int32))] [])) rfl (Jvm.hb hby d2_26)
        refine own_go st6 ?_
        show Gm p e below T6 m 29 #[iv p0, iv (p0 &&& (3 : Int32))] [(.ref w6)] _
        exact own_retA X6 hx hlk rfl Bd.returns rfl (Jvm.hb hby d2_29) e6 ⟨(by unfold fB; rw [if_neg c1, if_neg c3, if_pos c5]), N0, rfl⟩ (by decide) (by decide)
      · have hfork := trivial
        refine own_go (fun t₀ k₀ => XS.icmpYes X0.here hx rfl (pc0 := 23) (pc' := 30) rfl (Jvm.hb hby d2_23) rfl (XT.ii_ne_t c5) (by decide) (by decide) k₀) ?_
        show Gm p e below s₁ m 30 #[iv p0, iv (p0 &&& (3 : Int32))] [] _
        obtain ⟨T7, X7, e7, st7⟩ := getS2 X0 hx hZ hown (host := "") (Or.inl (hw _ (List.mem_of_getElem? (i := 68) rfl))) Via.refl e0 S_w7 (g := (mkF m 30 #[iv p0, iv (p0 &&& (3 : Int32))] [])) rfl (Jvm.hb hby d2_30)
        refine own_go st7 ?_
        show Gm p e below T7 m 33 #[iv p0, iv (p0 &&& (3 : Int32))] [(.ref w7)] _
        exact own_retA X7 hx hlk rfl Bd.returns rfl (Jvm.hb hby d2_33) e7 ⟨(by unfold fB; rw [if_neg c1, if_neg c3, if_neg c5]), N0, rfl⟩ (by decide) (by decide)
theorem d3_0 : decode prog_39_method_7_code 0 = .ok (.iload_n 0, 1) := by decide +kernel
theorem d3_1 : decode prog_39_method_7_code 1 = .ok (.ifCond .eq 11, 3) := by decide +kernel
theorem d3_4 : decode prog_39_method_7_code 4 = .ok (.iload_n 1, 1) := by decide +kernel
theorem d3_5 : decode prog_39_method_7_code 5 = .ok (.ifCond .eq 7, 3) := by decide +kernel
theorem d3_8 : decode prog_39_method_7_code 8 = .ok (.getstatic 3, 3) := by decide +kernel
theorem d3_11 : decode prog_39_method_7_code 11 = .ok (.areturn, 1) := by decide +kernel
theorem d3_12 : decode prog_39_method_7_code 12 = .ok (.iload_n 1, 1) := by decide +kernel
theorem d3_13 : decode prog_39_method_7_code 13 = .ok (.ifCond .eq 9, 3) := by decide +kernel
theorem d3_16 : decode prog_39_method_7_code 16 = .ok (.getstatic 10, 3) := by decide +kernel
theorem d3_19 : decode prog_39_method_7_code 19 = .ok (.goto 6, 3) := by decide +kernel
theorem d3_22 : decode prog_39_method_7_code 22 = .ok (.getstatic 7, 3) := by decide +kernel
theorem d3_25 : decode prog_39_method_7_code 25 = .ok (.areturn, 1) := by decide +kernel
theorem own_pn_rm3 : plainName "com/example/outlay/outlay/nacha/ServiceClass" = true := by first | (simp [plainName, overriddenIn]; done) | decide +kernel
theorem own_ef_rm3 (m : MethodId) (p0 : Int32) (p1 : Int32) : entryFrame m #[(.int p0), (.int p1)] 2 = mkF m 0 #[.val (.int p0), .val (.int p1)] [] := by first | (simp [entryFrame, mkF, argsToLocals, Value.category]; done) | rfl
def fH (p0 : Int32) (p1 : Int32) (wM : Addr) (wC : Addr) (wD : Addr) : Addr := if p0 = (0 : Int32) then if p1 = (0 : Int32) then wC else (wD) else (if p1 = (0 : Int32) then wC else (wM))
def Q3 (Z : State) (p0 : Int32) (p1 : Int32) (wM : Addr) (wC : Addr) (wD : Addr) (h0 : Heap) (n0 : Nat) (v : Option Value) (h : Heap) (L : List Loc) : Prop := v = some (.ref (fH p0 p1 wM wC wD)) ∧ Fr n0 L ∧ h = h0
set_option maxRecDepth 65536 in
set_option maxHeartbeats 40000000 in
theorem rm3 (l : Launch) (Z : State) (a0 : Array Value) (hw : ∀ d ∈ tables_1, d.before a0 Z = true) (ws : List Jvm.Cond) (p0 : Int32) (p1 : Int32) (wM : Addr) (wC : Addr) (wD : Addr) (h0 : Heap) (n0 : Nat) (Z0 : n0 ≤ h0.size) (S_wM : Sta Z h0 "com/example/outlay/outlay/nacha/ServiceClass" "MIXED" "Lcom/example/outlay/outlay/nacha/ServiceClass;" (.ref wM)) (S_wC : Sta Z h0 "com/example/outlay/outlay/nacha/ServiceClass" "CREDITS" "Lcom/example/outlay/outlay/nacha/ServiceClass;" (.ref wC)) (S_wD : Sta Z h0 "com/example/outlay/outlay/nacha/ServiceClass" "DEBITS" "Lcom/example/outlay/outlay/nacha/ServiceClass;" (.ref wD)) :
    MetFree l (⟨"com/example/outlay/outlay/nacha/ServiceClass", "holding", "(ZZ)Lcom/example/outlay/outlay/nacha/ServiceClass;"⟩ : MethodName) (head1 (Jvm.Cond.code (⟨"com/example/outlay/outlay/nacha/ServiceClass", "holding", "(ZZ)Lcom/example/outlay/outlay/nacha/ServiceClass;"⟩ : MethodName) prog_39_method_7_code 2 (some (.object "com/example/outlay/outlay/nacha/ServiceClass")) :: ws) ({ frames := 0, cells := 0, slots := 0, locals := 0 } : Room)) (fun a U => a = #[(.int p0), (.int p1)] ∧ Z.Warmed39 U.vm ∧ U.heap = h0) (fun _ _ _ _ _ => True) (fun _ U o U' => ∃ v L, o = .returned v ∧ Q3 Z p0 p1 wM wC wD h0 n0 v U'.heap L ∧ FrameEnd U o U' L ({ frames := 0, cells := 0, slots := 0, locals := 0 } : Room).cells ({ frames := 0, cells := 0, slots := 0, locals := 0 } : Room).slots) := by
  refine MetFree.of_bodySF (plainFor_of_name own_pn_rm3) hisR ?_
  intro p e s m args below meth c s₁ Bd hml0 hP hK
  obtain ⟨rfl, hZ, hh⟩ := hP
  have hx := Bd.exec
  have hby := Bd.bytes
  have hml : c.maxLocals = 2 := hml0
  have hown : s.vm.findClass "com/example/outlay/outlay/nacha/ServiceClass" = some m.cls := findClass_of_methodNamed Bd.named
  have hnm := (name_of_methodNamed Bd.named Bd.method).1
  have hlk : meth.locks = false := BodyLoose.notSynchronized Bd
  have X0 : Stand p l e ({ frames := 0, cells := 0, slots := 0, locals := 0 } : Room) s m #[(.int p0), (.int p1)] below meth c s₁ [] 0 0 := Stand.of_body Bd
  have e0 : s₁.heap = h0 := by rw [← hh, Bd.state]; rfl
  have N0 := Fr.nil n0
  refine own_in (own_ef_rm3 m p0 p1) ?_
  show Gm p e below s₁ m 0 #[iv p0, iv p1] [] _
  refine own_go (fun t₀ k₀ => XS.iloadN X0.here hx rfl (Jvm.hb hby d3_0) rfl k₀) ?_
  show Gm p e below s₁ m 1 #[iv p0, iv p1] [(.int p0)] _
  by_cases c1 : p0 = (0 : Int32)
  · have hfork := trivial
    refine own_go (fun t₀ k₀ => XS.ifYes X0.here hx rfl (pc0 := 1) (pc' := 12) rfl (Jvm.hb hby d3_1) rfl (XT.i0_eq_t c1) (by decide) (by decide) k₀) ?_
    show Gm p e below s₁ m 12 #[iv p0, iv p1] [] _
    refine own_go (fun t₀ k₀ => XS.iloadN X0.here hx rfl (Jvm.hb hby d3_12) rfl k₀) ?_
    show Gm p e below s₁ m 13 #[iv p0, iv p1] [(.int p1)] _
    by_cases c2 : p1 = (0 : Int32)
    · have hfork := trivial
      refine own_go (fun t₀ k₀ => XS.ifYes X0.here hx rfl (pc0 := 13) (pc' := 22) rfl (Jvm.hb hby d3_13) rfl (XT.i0_eq_t c2) (by decide) (by decide) k₀) ?_
      show Gm p e below s₁ m 22 #[iv p0, iv p1] [] _
      obtain ⟨T3, X3, e3, st3⟩ := getS2 X0 hx hZ hown (host := "") (Or.inl (hw _ (List.mem_of_getElem? (i := 16) rfl))) Via.refl e0 S_wC (g := (mkF m 22 #[iv p0, iv p1] [])) rfl (Jvm.hb hby d3_22)
      refine own_go st3 ?_
      show Gm p e below T3 m 25 #[iv p0, iv p1] [(.ref wC)] _
      exact own_retA X3 hx hlk rfl Bd.returns rfl (Jvm.hb hby d3_25) e3 ⟨(by unfold fH; rw [if_pos c1, if_pos c2]), N0, rfl⟩ (by decide) (by decide)
    · have hfork := trivial
      refine own_go (fun t₀ k₀ => XS.ifNo X0.here hx rfl (Jvm.hb hby d3_13) rfl (XT.i0_eq_f c2) k₀) ?_
      show Gm p e below s₁ m 16 #[iv p0, iv p1] [] _
      obtain ⟨T4, X4, e4, st4⟩ := getS2 X0 hx hZ hown (host := "") (Or.inl (hw _ (List.mem_of_getElem? (i := 60) rfl))) Via.refl e0 S_wD (g := (mkF m 16 #[iv p0, iv p1] [])) rfl (Jvm.hb hby d3_16)
      refine own_go st4 ?_
      show Gm p e below T4 m 19 #[iv p0, iv p1] [(.ref wD)] _
      refine own_go (fun t₀ k₀ => XS.goto X4.here hx rfl (pc0 := 19) (pc' := 25) rfl (Jvm.hb hby d3_19) (by decide) (by decide) k₀) ?_
      show Gm p e below T4 m 25 #[iv p0, iv p1] [(.ref wD)] _
      exact own_retA X4 hx hlk rfl Bd.returns rfl (Jvm.hb hby d3_25) e4 ⟨(by unfold fH; rw [if_pos c1, if_neg c2]), N0, rfl⟩ (by decide) (by decide)
  · have hfork := trivial
    refine own_go (fun t₀ k₀ => XS.ifNo X0.here hx rfl (Jvm.hb hby d3_1) rfl (XT.i0_eq_f c1) k₀) ?_
    show Gm p e below s₁ m 4 #[iv p0, iv p1] [] _
    refine own_go (fun t₀ k₀ => XS.iloadN X0.here hx rfl (Jvm.hb hby d3_4) rfl k₀) ?_
    show Gm p e below s₁ m 5 #[iv p0, iv p1] [(.int p1)] _
    by_cases c5 : p1 = (0 : Int32)
    · have hfork := trivial
      refine own_go (fun t₀ k₀ => XS.ifYes X0.here hx rfl (pc0 := 5) (pc' := 12) rfl (Jvm.hb hby d3_5) rfl (XT.i0_eq_t c5) (by decide) (by decide) k₀) ?_
      show Gm p e below s₁ m 12 #[iv p0, iv p1] [] _
      refine own_go (fun t₀ k₀ => XS.iloadN X0.here hx rfl (Jvm.hb hby d3_12) rfl k₀) ?_
      show Gm p e below s₁ m 13 #[iv p0, iv p1] [(.int p1)] _
      refine own_go (fun t₀ k₀ => XS.ifYes X0.here hx rfl (pc0 := 13) (pc' := 22) rfl (Jvm.hb hby d3_13) rfl (XT.i0_eq_t c5) (by decide) (by decide) k₀) ?_
      show Gm p e below s₁ m 22 #[iv p0, iv p1] [] _
      obtain ⟨T6, X6, e6, st6⟩ := getS2 X0 hx hZ hown (host := "") (Or.inl (hw _ (List.mem_of_getElem? (i := 16) rfl))) Via.refl e0 S_wC (g := (mkF m 22 #[iv p0, iv p1] [])) rfl (Jvm.hb hby d3_22)
      refine own_go st6 ?_
      show Gm p e below T6 m 25 #[iv p0, iv p1] [(.ref wC)] _
      exact own_retA X6 hx hlk rfl Bd.returns rfl (Jvm.hb hby d3_25) e6 ⟨(by unfold fH; rw [if_neg c1, if_pos c5]), N0, rfl⟩ (by decide) (by decide)
    · have hfork := trivial
      refine own_go (fun t₀ k₀ => XS.ifNo X0.here hx rfl (Jvm.hb hby d3_5) rfl (XT.i0_eq_f c5) k₀) ?_
      show Gm p e below s₁ m 8 #[iv p0, iv p1] [] _
      obtain ⟨T7, X7, e7, st7⟩ := getS2 X0 hx hZ hown (host := "") (Or.inl (hw _ (List.mem_of_getElem? (i := 23) rfl))) Via.refl e0 S_wM (g := (mkF m 8 #[iv p0, iv p1] [])) rfl (Jvm.hb hby d3_8)
      refine own_go st7 ?_
      show Gm p e below T7 m 11 #[iv p0, iv p1] [(.ref wM)] _
      exact own_retA X7 hx hlk rfl Bd.returns rfl (Jvm.hb hby d3_11) e7 ⟨(by unfold fH; rw [if_neg c1, if_neg c5]), N0, rfl⟩ (by decide) (by decide)
theorem d5_0 : decode prog_41_method_5_code 0 = .ok (.aload_n 0, 1) := by decide +kernel
theorem d5_1 : decode prog_41_method_5_code 1 = .ok (.getfield 47, 3) := by decide +kernel
theorem d5_4 : decode prog_41_method_5_code 4 = .ok (.iconst 1, 1) := by decide +kernel
theorem d5_5 : decode prog_41_method_5_code 5 = .ok (.invokevirtual 51, 3) := by decide +kernel
theorem d5_8 : decode prog_41_method_5_code 8 = .ok (.bipush 54, 2) := by decide +kernel
theorem d5_10 : decode prog_41_method_5_code 10 = .ok (.if_icmp .lt 7, 3) := by decide +kernel
theorem d5_13 : decode prog_41_method_5_code 13 = .ok (.iconst 1, 1) := by decide +kernel
theorem d5_14 : decode prog_41_method_5_code 14 = .ok (.goto 4, 3) := by decide +kernel
theorem d5_17 : decode prog_41_method_5_code 17 = .ok (.iconst 0, 1) := by decide +kernel
theorem d5_18 : decode prog_41_method_5_code 18 = .ok (.ireturn, 1) := by decide +kernel
theorem own_pd4 : parseMethodDescriptor "(I)C" = some ⟨[.int], some .char⟩ := by decide +kernel
theorem own_pn_rm5 : plainName "com/example/outlay/outlay/nacha/TransactionCode" = true := by first | (simp [plainName, overriddenIn]; done) | decide +kernel
theorem own_ef_rm5 (m : MethodId) (r0 : Addr) : entryFrame m #[(.ref r0)] 1 = mkF m 0 #[.val (.ref r0)] [] := by first | (simp [entryFrame, mkF, argsToLocals, Value.category]; done) | rfl
def fD (b : Int32) : Int32 := if (chOf b) < (54 : Int32) then (0 : Int32) else ((1 : Int32))
def Q5 (Z : State) (r0 : Addr) (b : Int32) (cs : Int32) (w : Value) (h0 : Heap) (n0 : Nat) (v : Option Value) (h : Heap) (L : List Loc) : Prop := v = some (.int (fD b)) ∧ Fr n0 L ∧ h = h0
set_option maxRecDepth 65536 in
set_option maxHeartbeats 40000000 in
theorem rm5 (l : Launch) (Z : State) (a0 : Array Value) (hw : ∀ d ∈ tables_1, d.before a0 Z = true) (ws : List Jvm.Cond) (r0 : Addr) (b : Int32) (cs : Int32) (w : Value) (h0 : Heap) (n0 : Nat) (Z0 : n0 ≤ h0.size) (H : TC Z h0 r0 b) (S_c : Sta Z h0 "java/lang/String" "COMPACT_STRINGS" "Z" (.int cs)) (hcs : ¬ cs = 0) (S_f : Sta Z h0 "jdk/internal/util/Preconditions" "SIOOBE_FORMATTER" "Ljava/util/function/BiFunction;" w) (hv_w : w.isRef = true) :
    MetFree l (⟨"com/example/outlay/outlay/nacha/TransactionCode", "isDebit", "()Z"⟩ : MethodName) (head1 (Jvm.Cond.code (⟨"com/example/outlay/outlay/nacha/TransactionCode", "isDebit", "()Z"⟩ : MethodName) prog_41_method_5_code 1 (some .boolean) :: ws) ({ frames := 4, cells := 0, slots := 0, locals := 53 } : Room)) (fun a U => a = #[(.ref r0)] ∧ Z.Warmed39 U.vm ∧ U.heap = h0) (fun _ _ _ _ _ => True) (fun _ U o U' => ∃ v L, o = .returned v ∧ Q5 Z r0 b cs w h0 n0 v U'.heap L ∧ FrameEnd U o U' L ({ frames := 4, cells := 0, slots := 0, locals := 53 } : Room).cells ({ frames := 4, cells := 0, slots := 0, locals := 53 } : Room).slots) := by
  refine MetFree.of_bodySF (plainFor_of_name own_pn_rm5) hisR ?_
  intro p e s m args below meth c s₁ Bd hml0 hP hK
  obtain ⟨rfl, hZ, hh⟩ := hP
  have hx := Bd.exec
  have hby := Bd.bytes
  have hml : c.maxLocals = 1 := hml0
  have hown : s.vm.findClass "com/example/outlay/outlay/nacha/TransactionCode" = some m.cls := findClass_of_methodNamed Bd.named
  have hnm := (name_of_methodNamed Bd.named Bd.method).1
  have hlk : meth.locks = false := BodyLoose.notSynchronized Bd
  have X0 : Stand p l e ({ frames := 4, cells := 0, slots := 0, locals := 53 } : Room) s m #[(.ref r0)] below meth c s₁ [] 0 0 := Stand.of_body Bd
  have e0 : s₁.heap = h0 := by rw [← hh, Bd.state]; rfl
  have N0 := Fr.nil n0
  obtain ⟨E_t, st, bv, f, F_code, E_st, F_cd, F_v, A, hf⟩ := H
  refine own_in (own_ef_rm5 m r0) ?_
  show Gm p e below s₁ m 0 #[rv r0] [] _
  refine own_go (fun t₀ k₀ => XS.aloadN X0.here hx rfl (Jvm.hb hby d5_0) rfl rfl k₀) ?_
  show Gm p e below s₁ m 1 #[rv r0] [(.ref r0)] _
  obtain ⟨T1, X1, e1, st1⟩ := getF X0 hx hZ hown (host := "") (Or.inl (hw _ (List.mem_of_getElem? (i := 30) rfl))) Via.refl e0 F_code (g := (mkF m 1 #[rv r0] [(.ref r0)])) rfl rfl (Jvm.hb hby d5_1)
  refine own_go st1 ?_
  show Gm p e below T1 m 4 #[rv r0] [(.ref st)] _
  refine own_go (fun t₀ k₀ => XS.iconst X1.here hx rfl (Jvm.hb hby d5_4) k₀) ?_
  show Gm p e below T1 m 5 #[rv r0] [(.int (1 : Int32)), (.ref st)] _
  obtain ⟨cq2, kq2, q2a, q2b, q2c⟩ := isOf hZ e1 E_st
  obtain ⟨_, _, ⟨T2, L2, k2, n2⟩, -, X2, ⟨Lc2, hQ2, l2, y2, z2⟩, st2⟩ := X1.virtualBack hx (y := (⟨"java/lang/String", "charAt", "(I)C"⟩ : MethodName)) (z := (⟨"java/lang/String", "charAt", "(I)C"⟩ : MethodName)) hown (mvT hZ (hw _ (List.mem_of_getElem? (i := 32) rfl))) (mvT hZ (hw _ (List.mem_of_getElem? (i := 33) rfl))) (notFace_of_selects (args := #[]) (mvT hZ (hw _ (List.mem_of_getElem? (i := 35) rfl)))) (mvT hZ (hw _ (List.mem_of_getElem? (i := 35) rfl))) (mvT hZ (hw _ (List.mem_of_getElem? (i := 34) rfl))) (by decide) (backOf (W := 0) (rm6 l Z a0 hw [] st (1 : Int32) bv 2 f b cs w h0 n0 Z0 E_st F_cd F_v A (by decide) (by decide) (by decide) hf S_c hcs S_f hv_w) hZ (hw _ (List.mem_of_getElem? (i := 37) rfl)) (hw _ (List.mem_of_getElem? (i := 36) rfl)) (by decide) (by decide)) q2a q2c (g := (mkF m 5 #[rv r0] [(.int (1 : Int32)), (.ref st)])) rfl (by rw [hml]; rfl) (Steps.refl _) (argsL := [(.int (1 : Int32))]) (rest := []) (lenOf own_pd4 rfl) rfl (by show 2 * 0 + _ ≤ _; exact Nat.le_of_eq rfl) (Jvm.hb hby d5_5) (fun _ _ => ⟨rfl, e1, (by decide : 0 + 0 ≤ _), (by decide : 0 + 0 ≤ _)⟩)
  dsimp only [Pt.U, Pt.locs, Pt.cells, Pt.slots] at X2 l2 y2 z2 st2 hQ2
  subst l2 y2 z2
  obtain ⟨rfl, Nq2, eq2⟩ := hQ2
  have N2 := Fr.app N0 Nq2
  have e2 : T2.heap = h0 := eq2
  refine own_go (fun t k => st2.trans k) ?_
  show Gm p e below T2 m 8 #[rv r0] [(.int (chOf b))] _
  refine own_go (fun t₀ k₀ => XS.bipush X2.here hx rfl (Jvm.hb hby d5_8) k₀) ?_
  show Gm p e below T2 m 10 #[rv r0] [(.int (54 : Int32)), (.int (chOf b))] _
  by_cases c3 : (chOf b) < (54 : Int32)
  · have hfork := trivial
    refine own_go (fun t₀ k₀ => XS.icmpYes X2.here hx rfl (pc0 := 10) (pc' := 17) rfl (Jvm.hb hby d5_10) rfl (XT.ii_lt_t c3) (by decide) (by decide) k₀) ?_
    show Gm p e below T2 m 17 #[rv r0] [] _
    refine own_go (fun t₀ k₀ => XS.iconst X2.here hx rfl (Jvm.hb hby d5_17) k₀) ?_
    show Gm p e below T2 m 18 #[rv r0] [(.int (0 : Int32))] _
    exact own_retI X2 hx hlk (t := .boolean) Bd.returns rfl (by simp) (Jvm.hb hby d5_18) e2 ⟨(by unfold fD; rw [if_pos c3]), N2, rfl⟩ (by decide) (by decide)
  · have hfork := trivial
    refine own_go (fun t₀ k₀ => XS.icmpNo X2.here hx rfl (Jvm.hb hby d5_10) rfl (XT.ii_lt_f c3) k₀) ?_
    show Gm p e below T2 m 13 #[rv r0] [] _
    refine own_go (fun t₀ k₀ => XS.iconst X2.here hx rfl (Jvm.hb hby d5_13) k₀) ?_
    show Gm p e below T2 m 14 #[rv r0] [(.int (1 : Int32))] _
    refine own_go (fun t₀ k₀ => XS.goto X2.here hx rfl (pc0 := 14) (pc' := 18) rfl (Jvm.hb hby d5_14) (by decide) (by decide) k₀) ?_
    show Gm p e below T2 m 18 #[rv r0] [(.int (1 : Int32))] _
    exact own_retI X2 hx hlk (t := .boolean) Bd.returns rfl (by simp) (Jvm.hb hby d5_18) e2 ⟨(by unfold fD; rw [if_neg c3]), N2, rfl⟩ (by decide) (by decide)
theorem d4_0 : decode prog_39_method_5_code 0 = .ok (.aload_n 0, 1) := by decide +kernel
theorem d4_1 : decode prog_39_method_5_code 1 = .ok (.getstatic 3, 3) := by decide +kernel
theorem d4_4 : decode prog_39_method_5_code 4 = .ok (.if_acmp .eq 22, 3) := by decide +kernel
theorem d4_7 : decode prog_39_method_5_code 7 = .ok (.aload_n 1, 1) := by decide +kernel
theorem d4_8 : decode prog_39_method_5_code 8 = .ok (.invokevirtual 39, 3) := by decide +kernel
theorem d4_11 : decode prog_39_method_5_code 11 = .ok (.aload_n 0, 1) := by decide +kernel
theorem d4_12 : decode prog_39_method_5_code 12 = .ok (.getstatic 10, 3) := by decide +kernel
theorem d4_15 : decode prog_39_method_5_code 15 = .ok (.if_acmp .ne 7, 3) := by decide +kernel
theorem d4_18 : decode prog_39_method_5_code 18 = .ok (.iconst 1, 1) := by decide +kernel
theorem d4_19 : decode prog_39_method_5_code 19 = .ok (.goto 4, 3) := by decide +kernel
theorem d4_22 : decode prog_39_method_5_code 22 = .ok (.iconst 0, 1) := by decide +kernel
theorem d4_23 : decode prog_39_method_5_code 23 = .ok (.if_icmp .ne 7, 3) := by decide +kernel
theorem d4_26 : decode prog_39_method_5_code 26 = .ok (.iconst 1, 1) := by decide +kernel
theorem d4_27 : decode prog_39_method_5_code 27 = .ok (.goto 4, 3) := by decide +kernel
theorem d4_30 : decode prog_39_method_5_code 30 = .ok (.iconst 0, 1) := by decide +kernel
theorem d4_31 : decode prog_39_method_5_code 31 = .ok (.ireturn, 1) := by decide +kernel
theorem own_pn_rm4 : plainName "com/example/outlay/outlay/nacha/ServiceClass" = true := by first | (simp [plainName, overriddenIn]; done) | decide +kernel
theorem own_ef_rm4 (m : MethodId) (r0 : Addr) (r1 : Addr) : entryFrame m #[(.ref r0), (.ref r1)] 2 = mkF m 0 #[.val (.ref r0), .val (.ref r1)] [] := by first | (simp [entryFrame, mkF, argsToLocals, Value.category]; done) | rfl
def fA (r0 : Addr) (b : Int32) (wM : Addr) (wD : Addr) : Int32 := if r0 = wM then (1 : Int32) else (if r0 = wD then if (fD b) = (1 : Int32) then (1 : Int32) else ((0 : Int32)) else (if (fD b) = (0 : Int32) then (1 : Int32) else ((0 : Int32))))
def Q4 (Z : State) (r0 : Addr) (r1 : Addr) (b : Int32) (wM : Addr) (wD : Addr) (cs : Int32) (w : Value) (h0 : Heap) (n0 : Nat) (v : Option Value) (h : Heap) (L : List Loc) : Prop := v = some (.int (fA r0 b wM wD)) ∧ Fr n0 L ∧ h = h0
set_option maxRecDepth 65536 in
set_option maxHeartbeats 40000000 in
theorem rm4 (l : Launch) (Z : State) (a0 : Array Value) (hw : ∀ d ∈ tables_1, d.before a0 Z = true) (ws : List Jvm.Cond) (r0 : Addr) (r1 : Addr) (b : Int32) (wM : Addr) (wD : Addr) (cs : Int32) (w : Value) (h0 : Heap) (n0 : Nat) (Z0 : n0 ≤ h0.size) (H : TC Z h0 r1 b) (S_wM : Sta Z h0 "com/example/outlay/outlay/nacha/ServiceClass" "MIXED" "Lcom/example/outlay/outlay/nacha/ServiceClass;" (.ref wM)) (S_wD : Sta Z h0 "com/example/outlay/outlay/nacha/ServiceClass" "DEBITS" "Lcom/example/outlay/outlay/nacha/ServiceClass;" (.ref wD)) (S_c : Sta Z h0 "java/lang/String" "COMPACT_STRINGS" "Z" (.int cs)) (hcs : ¬ cs = 0) (S_f : Sta Z h0 "jdk/internal/util/Preconditions" "SIOOBE_FORMATTER" "Ljava/util/function/BiFunction;" w) (hv_w : w.isRef = true) :
    MetFree l (⟨"com/example/outlay/outlay/nacha/ServiceClass", "allows", "(Lcom/example/outlay/outlay/nacha/TransactionCode;)Z"⟩ : MethodName) (head1 (Jvm.Cond.code (⟨"com/example/outlay/outlay/nacha/ServiceClass", "allows", "(Lcom/example/outlay/outlay/nacha/TransactionCode;)Z"⟩ : MethodName) prog_39_method_5_code 2 (some .boolean) :: ws) ({ frames := 5, cells := 0, slots := 0, locals := 66 } : Room)) (fun a U => a = #[(.ref r0), (.ref r1)] ∧ Z.Warmed39 U.vm ∧ U.heap = h0) (fun _ _ _ _ _ => True) (fun _ U o U' => ∃ v L, o = .returned v ∧ Q4 Z r0 r1 b wM wD cs w h0 n0 v U'.heap L ∧ FrameEnd U o U' L ({ frames := 5, cells := 0, slots := 0, locals := 66 } : Room).cells ({ frames := 5, cells := 0, slots := 0, locals := 66 } : Room).slots) := by
  refine MetFree.of_bodySF (plainFor_of_name own_pn_rm4) hisR ?_
  intro p e s m args below meth c s₁ Bd hml0 hP hK
  obtain ⟨rfl, hZ, hh⟩ := hP
  have hx := Bd.exec
  have hby := Bd.bytes
  have hml : c.maxLocals = 2 := hml0
  have hown : s.vm.findClass "com/example/outlay/outlay/nacha/ServiceClass" = some m.cls := findClass_of_methodNamed Bd.named
  have hnm := (name_of_methodNamed Bd.named Bd.method).1
  have hlk : meth.locks = false := BodyLoose.notSynchronized Bd
  have X0 : Stand p l e ({ frames := 5, cells := 0, slots := 0, locals := 66 } : Room) s m #[(.ref r0), (.ref r1)] below meth c s₁ [] 0 0 := Stand.of_body Bd
  have e0 : s₁.heap = h0 := by rw [← hh, Bd.state]; rfl
  have N0 := Fr.nil n0
  refine own_in (own_ef_rm4 m r0 r1) ?_
  show Gm p e below s₁ m 0 #[rv r0, rv r1] [] _
  refine own_go (fun t₀ k₀ => XS.aloadN X0.here hx rfl (Jvm.hb hby d4_0) rfl rfl k₀) ?_
  show Gm p e below s₁ m 1 #[rv r0, rv r1] [(.ref r0)] _
  obtain ⟨T1, X1, e1, st1⟩ := getS2 X0 hx hZ hown (host := "") (Or.inl (hw _ (List.mem_of_getElem? (i := 23) rfl))) Via.refl e0 S_wM (g := (mkF m 1 #[rv r0, rv r1] [(.ref r0)])) rfl (Jvm.hb hby d4_1)
  refine own_go st1 ?_
  show Gm p e below T1 m 4 #[rv r0, rv r1] [(.ref wM), (.ref r0)] _
  by_cases c2 : r0 = wM
  · have hfork := trivial
    refine own_go (fun t₀ k₀ => XT.acmpYes X1.here hx rfl (pc0 := 4) (pc' := 26) rfl (Jvm.hb hby d4_4) rfl rfl rfl (XT.aa_eq_t (congrArg Value.ref c2)) (by decide) (by decide) k₀) ?_
    show Gm p e below T1 m 26 #[rv r0, rv r1] [] _
    refine own_go (fun t₀ k₀ => XS.iconst X1.here hx rfl (Jvm.hb hby d4_26) k₀) ?_
    show Gm p e below T1 m 27 #[rv r0, rv r1] [(.int (1 : Int32))] _
    refine own_go (fun t₀ k₀ => XS.goto X1.here hx rfl (pc0 := 27) (pc' := 31) rfl (Jvm.hb hby d4_27) (by decide) (by decide) k₀) ?_
    show Gm p e below T1 m 31 #[rv r0, rv r1] [(.int (1 : Int32))] _
    exact own_retI X1 hx hlk (t := .boolean) Bd.returns rfl (by simp) (Jvm.hb hby d4_31) e1 ⟨(by unfold fA; rw [if_pos c2]), N0, rfl⟩ (by decide) (by decide)
  · have hfork := trivial
    refine own_go (fun t₀ k₀ => XT.acmpNo X1.here hx rfl (Jvm.hb hby d4_4) rfl rfl rfl (XT.aa_eq_f (fun q => c2 (Value.ref.inj q))) k₀) ?_
    show Gm p e below T1 m 7 #[rv r0, rv r1] [] _
    refine own_go (fun t₀ k₀ => XS.aloadN X1.here hx rfl (Jvm.hb hby d4_7) rfl rfl k₀) ?_
    show Gm p e below T1 m 8 #[rv r0, rv r1] [(.ref r1)] _
    obtain ⟨cq3, kq3, q3a, q3b, q3c⟩ := isOf hZ e1 H.1
    obtain ⟨_, _, ⟨T3, L3, k3, n3⟩, -, X3, ⟨Lc3, hQ3, l3, y3, z3⟩, st3⟩ := X1.virtualBack hx (y := (⟨"com/example/outlay/outlay/nacha/TransactionCode", "isDebit", "()Z"⟩ : MethodName)) (z := (⟨"com/example/outlay/outlay/nacha/TransactionCode", "isDebit", "()Z"⟩ : MethodName)) hown (mvT hZ (hw _ (List.mem_of_getElem? (i := 25) rfl))) (mvT hZ (hw _ (List.mem_of_getElem? (i := 26) rfl))) (notFace_of_selects (args := #[]) (mvT hZ (hw _ (List.mem_of_getElem? (i := 28) rfl)))) (mvT hZ (hw _ (List.mem_of_getElem? (i := 28) rfl))) (mvT hZ (hw _ (List.mem_of_getElem? (i := 27) rfl))) (by decide) (backOf (W := 0) (rm5 l Z a0 hw [] r1 b cs w h0 n0 Z0 H S_c hcs S_f hv_w) hZ (hw _ (List.mem_of_getElem? (i := 29) rfl)) (hw _ (List.mem_of_getElem? (i := 5) rfl)) (by decide) (by decide)) q3a q3c (g := (mkF m 8 #[rv r0, rv r1] [(.ref r1)])) rfl (by rw [hml]; rfl) (Steps.refl _) (argsL := []) (rest := []) (lenOf own_pd2 rfl) rfl (by show 2 * 0 + _ ≤ _; exact Nat.le_of_eq rfl) (Jvm.hb hby d4_8) (fun _ _ => ⟨rfl, e1, (by decide : 0 + 0 ≤ _), (by decide : 0 + 0 ≤ _)⟩)
    dsimp only [Pt.U, Pt.locs, Pt.cells, Pt.slots] at X3 l3 y3 z3 st3 hQ3
    subst l3 y3 z3
    obtain ⟨rfl, Nq3, eq3⟩ := hQ3
    have N3 := Fr.app N0 Nq3
    have e3 : T3.heap = h0 := eq3
    refine own_go (fun t k => st3.trans k) ?_
    show Gm p e below T3 m 11 #[rv r0, rv r1] [(.int (fD b))] _
    refine own_go (fun t₀ k₀ => XS.aloadN X3.here hx rfl (Jvm.hb hby d4_11) rfl rfl k₀) ?_
    show Gm p e below T3 m 12 #[rv r0, rv r1] [(.ref r0), (.int (fD b))] _
    obtain ⟨T4, X4, e4, st4⟩ := getS2 X3 hx hZ hown (host := "") (Or.inl (hw _ (List.mem_of_getElem? (i := 60) rfl))) Via.refl e3 S_wD (g := (mkF m 12 #[rv r0, rv r1] [(.ref r0), (.int (fD b))])) rfl (Jvm.hb hby d4_12)
    refine own_go st4 ?_
    show Gm p e below T4 m 15 #[rv r0, rv r1] [(.ref wD), (.ref r0), (.int (fD b))] _
    by_cases c5 : r0 = wD
    · have hfork := trivial
      refine own_go (fun t₀ k₀ => XT.acmpNo X4.here hx rfl (Jvm.hb hby d4_15) rfl rfl rfl (XT.aa_ne_f (congrArg Value.ref c5)) k₀) ?_
      show Gm p e below T4 m 18 #[rv r0, rv r1] [(.int (fD b))] _
      refine own_go (fun t₀ k₀ => XS.iconst X4.here hx rfl (Jvm.hb hby d4_18) k₀) ?_
      show Gm p e below T4 m 19 #[rv r0, rv r1] [(.int (1 : Int32)), (.int (fD b))] _
      refine own_go (fun t₀ k₀ => XS.goto X4.here hx rfl (pc0 := 19) (pc' := 23) rfl (Jvm.hb hby d4_19) (by decide) (by decide) k₀) ?_
      show Gm p e below T4 m 23 #[rv r0, rv r1] [(.int (1 : Int32)), (.int (fD b))] _
      by_cases c6 : (fD b) = (1 : Int32)
      · have hfork := trivial
        refine own_go (fun t₀ k₀ => XS.icmpNo X4.here hx rfl (Jvm.hb hby d4_23) rfl (XT.ii_ne_f c6) k₀) ?_
        show Gm p e below T4 m 26 #[rv r0, rv r1] [] _
        refine own_go (fun t₀ k₀ => XS.iconst X4.here hx rfl (Jvm.hb hby d4_26) k₀) ?_
        show Gm p e below T4 m 27 #[rv r0, rv r1] [(.int (1 : Int32))] _
        refine own_go (fun t₀ k₀ => XS.goto X4.here hx rfl (pc0 := 27) (pc' := 31) rfl (Jvm.hb hby d4_27) (by decide) (by decide) k₀) ?_
        show Gm p e below T4 m 31 #[rv r0, rv r1] [(.int (1 : Int32))] _
        exact own_retI X4 hx hlk (t := .boolean) Bd.returns rfl (by simp) (Jvm.hb hby d4_31) e4 ⟨(by unfold fA; rw [if_neg c2, if_pos c5, if_pos c6]), N3, rfl⟩ (by decide) (by decide)
      · have hfork := trivial
        refine own_go (fun t₀ k₀ => XS.icmpYes X4.here hx rfl (pc0 := 23) (pc' := 30) rfl (Jvm.hb hby d4_23) rfl (XT.ii_ne_t c6) (by decide) (by decide) k₀) ?_
        show Gm p e below T4 m 30 #[rv r0, rv r1] [] _
        refine own_go (fun t₀ k₀ => XS.iconst X4.here hx rfl (Jvm.hb hby d4_30) k₀) ?_
        show Gm p e below T4 m 31 #[rv r0, rv r1] [(.int (0 : Int32))] _
        exact own_retI X4 hx hlk (t := .boolean) Bd.returns rfl (by simp) (Jvm.hb hby d4_31) e4 ⟨(by unfold fA; rw [if_neg c2, if_pos c5, if_neg c6]), N3, rfl⟩ (by decide) (by decide)
    · have hfork := trivial
      refine own_go (fun t₀ k₀ => XT.acmpYes X4.here hx rfl (pc0 := 15) (pc' := 22) rfl (Jvm.hb hby d4_15) rfl rfl rfl (XT.aa_ne_t (fun q => c5 (Value.ref.inj q))) (by decide) (by decide) k₀) ?_
      show Gm p e below T4 m 22 #[rv r0, rv r1] [(.int (fD b))] _
      refine own_go (fun t₀ k₀ => XS.iconst X4.here hx rfl (Jvm.hb hby d4_22) k₀) ?_
      show Gm p e below T4 m 23 #[rv r0, rv r1] [(.int (0 : Int32)), (.int (fD b))] _
      by_cases c7 : (fD b) = (0 : Int32)
      · have hfork := trivial
        refine own_go (fun t₀ k₀ => XS.icmpNo X4.here hx rfl (Jvm.hb hby d4_23) rfl (XT.ii_ne_f c7) k₀) ?_
        show Gm p e below T4 m 26 #[rv r0, rv r1] [] _
        refine own_go (fun t₀ k₀ => XS.iconst X4.here hx rfl (Jvm.hb hby d4_26) k₀) ?_
        show Gm p e below T4 m 27 #[rv r0, rv r1] [(.int (1 : Int32))] _
        refine own_go (fun t₀ k₀ => XS.goto X4.here hx rfl (pc0 := 27) (pc' := 31) rfl (Jvm.hb hby d4_27) (by decide) (by decide) k₀) ?_
        show Gm p e below T4 m 31 #[rv r0, rv r1] [(.int (1 : Int32))] _
        exact own_retI X4 hx hlk (t := .boolean) Bd.returns rfl (by simp) (Jvm.hb hby d4_31) e4 ⟨(by unfold fA; rw [if_neg c2, if_neg c5, if_pos c7]), N3, rfl⟩ (by decide) (by decide)
      · have hfork := trivial
        refine own_go (fun t₀ k₀ => XS.icmpYes X4.here hx rfl (pc0 := 23) (pc' := 30) rfl (Jvm.hb hby d4_23) rfl (XT.ii_ne_t c7) (by decide) (by decide) k₀) ?_
        show Gm p e below T4 m 30 #[rv r0, rv r1] [] _
        refine own_go (fun t₀ k₀ => XS.iconst X4.here hx rfl (Jvm.hb hby d4_30) k₀) ?_
        show Gm p e below T4 m 31 #[rv r0, rv r1] [(.int (0 : Int32))] _
        exact own_retI X4 hx hlk (t := .boolean) Bd.returns rfl (by simp) (Jvm.hb hby d4_31) e4 ⟨(by unfold fA; rw [if_neg c2, if_neg c5, if_neg c7]), N3, rfl⟩ (by decide) (by decide)
def bC (k : Int32) : Int32 := if (k &&& (3 : Int32)) = 0 then 49 else if (k &&& (3 : Int32)) = 1 then 50 else if (k &&& (3 : Int32)) = 2 then 49 else 50
def bD (k : Int32) : Int32 := if (k &&& (3 : Int32)) = 0 then 54 else if (k &&& (3 : Int32)) = 1 then 55 else if (k &&& (3 : Int32)) = 2 then 54 else 55
theorem own_tcC {Z : State} {h : Heap} {w0 w1 w2 w3 : Addr} (k : Int32) (Hw0 : TC Z h w0 49) (Hw1 : TC Z h w1 50) (Hw2 : TC Z h w2 49) (Hw3 : TC Z h w3 50) : TC Z h (fC k w0 w1 w2 w3) (bC k) := by
  unfold fC bC
  by_cases c0 : (k &&& (3 : Int32)) = 0
  · rw [if_pos c0, if_pos c0]; exact Hw0
  rw [if_neg c0, if_neg c0]
  by_cases c1 : (k &&& (3 : Int32)) = 1
  · rw [if_pos c1, if_pos c1]; exact Hw1
  rw [if_neg c1, if_neg c1]
  by_cases c2 : (k &&& (3 : Int32)) = 2
  · rw [if_pos c2, if_pos c2]; exact Hw2
  rw [if_neg c2, if_neg c2]
  exact Hw3
theorem own_tcD {Z : State} {h : Heap} {w4 w5 w6 w7 : Addr} (k : Int32) (Hw4 : TC Z h w4 54) (Hw5 : TC Z h w5 55) (Hw6 : TC Z h w6 54) (Hw7 : TC Z h w7 55) : TC Z h (fB k w4 w5 w6 w7) (bD k) := by
  unfold fB bD
  by_cases c0 : (k &&& (3 : Int32)) = 0
  · rw [if_pos c0, if_pos c0]; exact Hw4
  rw [if_neg c0, if_neg c0]
  by_cases c1 : (k &&& (3 : Int32)) = 1
  · rw [if_pos c1, if_pos c1]; exact Hw5
  rw [if_neg c1, if_neg c1]
  by_cases c2 : (k &&& (3 : Int32)) = 2
  · rw [if_pos c2, if_pos c2]; exact Hw6
  rw [if_neg c2, if_neg c2]
  exact Hw7
theorem own_fC (k : Int32) : fD (bC k) = 0 := by
  unfold bC
  split
  · decide
  split
  · decide
  split <;> decide
theorem own_fD (k : Int32) : fD (bD k) = 1 := by
  unfold bD
  split
  · decide
  split
  · decide
  split <;> decide
theorem own_M (b : Int32) (wM wD : Addr) : fA wM b wM wD = 1 := by simp [fA]
theorem own_Dc (b : Int32) (wM wD : Addr) (h : wD ≠ wM) (q : fD b = 0) : fA wD b wM wD = 0 := by simp [fA, h, q]
theorem own_Dd (b : Int32) (wM wD : Addr) (q : fD b = 1) : fA wD b wM wD = 1 := by simp [fA, q]
theorem own_Cc (b : Int32) (wM wD wC : Addr) (h : wC ≠ wM) (h' : wC ≠ wD) (q : fD b = 0) : fA wC b wM wD = 1 := by simp [fA, h, h', q]
theorem own_Cd (b : Int32) (wM wD wC : Addr) (h : wC ≠ wM) (h' : wC ≠ wD) (q : fD b = 1) : fA wC b wM wD = 0 := by simp [fA, h, h', q]
theorem own_pd5 : parseMethodDescriptor "(I)Lcom/example/outlay/outlay/nacha/TransactionCode;" = some ⟨[.int], some (.object "com/example/outlay/outlay/nacha/TransactionCode")⟩ := by decide +kernel
theorem own_pd6 : parseMethodDescriptor "(ZZ)Lcom/example/outlay/outlay/nacha/ServiceClass;" = some ⟨[.boolean, .boolean], some (.object "com/example/outlay/outlay/nacha/ServiceClass")⟩ := by decide +kernel
theorem own_pd7 : parseMethodDescriptor "(Lcom/example/outlay/outlay/nacha/TransactionCode;)Z" = some ⟨[(.object "com/example/outlay/outlay/nacha/TransactionCode")], some .boolean⟩ := by decide +kernel
theorem own_pn_rm0 : plainName "com/example/outlay/outlay/nacha/ServiceClassHoldingPinLaw" = true := by first | (simp [plainName, overriddenIn]; done) | decide +kernel
theorem own_ef_rm0 (m : MethodId) (p0 : Int32) (p1 : Int32) : entryFrame m #[(.int p0), (.int p1)] maxLocals = mkF m 0 #[.val (.int p0), .val (.int p1), .unset, .unset, .unset, .unset, .unset, .unset, .unset, .unset, .unset] [] := by first | (simp [entryFrame, mkF, argsToLocals, Value.category, maxLocals]; done) | rfl
def Q0 (Z : State) (p0 : Int32) (p1 : Int32) (w0 : Addr) (w1 : Addr) (w2 : Addr) (w3 : Addr) (w4 : Addr) (w5 : Addr) (w6 : Addr) (w7 : Addr) (wM : Addr) (wC : Addr) (wD : Addr) (cs : Int32) (w : Value) (h0 : Heap) (n0 : Nat) (v : Option Value) (h : Heap) (L : List Loc) : Prop := v = some (.int 1) ∧ Fr n0 L
set_option maxRecDepth 65536 in
set_option maxHeartbeats 40000000 in
theorem rm0 (l : Launch) (Z : State) (a0 : Array Value) (hw : ∀ d ∈ tables_1, d.before a0 Z = true) (ws : List Jvm.Cond) (p0 : Int32) (p1 : Int32) (w0 : Addr) (w1 : Addr) (w2 : Addr) (w3 : Addr) (w4 : Addr) (w5 : Addr) (w6 : Addr) (w7 : Addr) (wM : Addr) (wC : Addr) (wD : Addr) (cs : Int32) (w : Value) (h0 : Heap) (n0 : Nat) (Z0 : n0 ≤ h0.size) (S_w0 : Sta Z h0 "com/example/outlay/outlay/nacha/TransactionCode" "CHECKING_CREDIT_RETURN" "Lcom/example/outlay/outlay/nacha/TransactionCode;" (.ref w0)) (S_w1 : Sta Z h0 "com/example/outlay/outlay/nacha/TransactionCode" "CHECKING_CREDIT" "Lcom/example/outlay/outlay/nacha/TransactionCode;" (.ref w1)) (S_w2 : Sta Z h0 "com/example/outlay/outlay/nacha/TransactionCode" "SAVINGS_CREDIT_RETURN" "Lcom/example/outlay/outlay/nacha/TransactionCode;" (.ref w2)) (S_w3 : Sta Z h0 "com/example/outlay/outlay/nacha/TransactionCode" "SAVINGS_CREDIT" "Lcom/example/outlay/outlay/nacha/TransactionCode;" (.ref w3)) (S_w4 : Sta Z h0 "com/example/outlay/outlay/nacha/TransactionCode" "CHECKING_DEBIT_RETURN" "Lcom/example/outlay/outlay/nacha/TransactionCode;" (.ref w4)) (S_w5 : Sta Z h0 "com/example/outlay/outlay/nacha/TransactionCode" "CHECKING_DEBIT" "Lcom/example/outlay/outlay/nacha/TransactionCode;" (.ref w5)) (S_w6 : Sta Z h0 "com/example/outlay/outlay/nacha/TransactionCode" "SAVINGS_DEBIT_RETURN" "Lcom/example/outlay/outlay/nacha/TransactionCode;" (.ref w6)) (S_w7 : Sta Z h0 "com/example/outlay/outlay/nacha/TransactionCode" "SAVINGS_DEBIT" "Lcom/example/outlay/outlay/nacha/TransactionCode;" (.ref w7)) (S_wM : Sta Z h0 "com/example/outlay/outlay/nacha/ServiceClass" "MIXED" "Lcom/example/outlay/outlay/nacha/ServiceClass;" (.ref wM)) (S_wC : Sta Z h0 "com/example/outlay/outlay/nacha/ServiceClass" "CREDITS" "Lcom/example/outlay/outlay/nacha/ServiceClass;" (.ref wC)) (S_wD : Sta Z h0 "com/example/outlay/outlay/nacha/ServiceClass" "DEBITS" "Lcom/example/outlay/outlay/nacha/ServiceClass;" (.ref wD)) (Hw0 : TC Z h0 w0 49) (Hw1 : TC Z h0 w1 50) (Hw2 : TC Z h0 w2 49) (Hw3 : TC Z h0 w3 50) (Hw4 : TC Z h0 w4 54) (Hw5 : TC Z h0 w5 55) (Hw6 : TC Z h0 w6 54) (Hw7 : TC Z h0 w7 55) (E_wM : Exa Z h0 wM "com/example/outlay/outlay/nacha/ServiceClass") (E_wC : Exa Z h0 wC "com/example/outlay/outlay/nacha/ServiceClass") (E_wD : Exa Z h0 wD "com/example/outlay/outlay/nacha/ServiceClass") (n_DM : wD ≠ wM) (n_CM : wC ≠ wM) (n_CD : wC ≠ wD) (S_c : Sta Z h0 "java/lang/String" "COMPACT_STRINGS" "Z" (.int cs)) (hcs : ¬ cs = 0) (S_f : Sta Z h0 "jdk/internal/util/Preconditions" "SIOOBE_FORMATTER" "Ljava/util/function/BiFunction;" w) (hv_w : w.isRef = true) :
    MetFree l x (head1 (Jvm.Cond.code x code maxLocals ret :: ws) room_1) (fun a U => a = #[(.int p0), (.int p1)] ∧ Z.Warmed39 U.vm ∧ U.heap = h0) (fun _ _ _ _ _ => True) (fun _ U o U' => ∃ v L, o = .returned v ∧ Q0 Z p0 p1 w0 w1 w2 w3 w4 w5 w6 w7 wM wC wD cs w h0 n0 v U'.heap L ∧ FrameEnd U o U' L room_1.cells room_1.slots) := by
  refine MetFree.of_bodySF (plainFor_of_name own_pn_rm0) hisR ?_
  intro p e s m args below meth c s₁ Bd hml0 hP hK
  obtain ⟨rfl, hZ, hh⟩ := hP
  have hx := Bd.exec
  have hby := Bd.bytes
  have hml : c.maxLocals = 11 := hml0
  have hown : s.vm.findClass "com/example/outlay/outlay/nacha/ServiceClassHoldingPinLaw" = some m.cls := findClass_of_methodNamed Bd.named
  have hnm := (name_of_methodNamed Bd.named Bd.method).1
  have hlk : meth.locks = false := BodyLoose.notSynchronized Bd
  have X0 : Stand p l e room_1 s m #[(.int p0), (.int p1)] below meth c s₁ [] 0 0 := Stand.of_body Bd
  have e0 : s₁.heap = h0 := by rw [← hh, Bd.state]; rfl
  have N0 := Fr.nil n0
  refine own_in (own_ef_rm0 m p0 p1) ?_
  show Gm p e below s₁ m 0 #[iv p0, iv p1, .unset, .unset, .unset, .unset, .unset, .unset, .unset, .unset, .unset] [] _
  refine own_go (fun t₀ k₀ => XS.iloadN X0.here hx rfl (Jvm.hb hby at_0) rfl k₀) ?_
  show Gm p e below s₁ m 1 #[iv p0, iv p1, .unset, .unset, .unset, .unset, .unset, .unset, .unset, .unset, .unset] [(.int p0)] _
  refine own_go (fun t₀ k₀ => XS.iconst X0.here hx rfl (Jvm.hb hby at_1) k₀) ?_
  show Gm p e below s₁ m 2 #[iv p0, iv p1, .unset, .unset, .unset, .unset, .unset, .unset, .unset, .unset, .unset] [(.int (1 : Int32)), (.int p0)] _
  refine own_go (fun t₀ k₀ => XS.iand X0.here hx rfl (Jvm.hb hby at_2) rfl k₀) ?_
  show Gm p e below s₁ m 3 #[iv p0, iv p1, .unset, .unset, .unset, .unset, .unset, .unset, .unset, .unset, .unset] [(.int (p0 &&& (1 : Int32)))] _
  by_cases c1 : (p0 &&& (1 : Int32)) = (0 : Int32)
  · have hfork := trivial
    refine own_go (fun t₀ k₀ => XS.ifYes X0.here hx rfl (pc0 := 3) (pc' := 10) rfl (Jvm.hb hby at_3) rfl (XT.i0_eq_t c1) (by decide) (by decide) k₀) ?_
    show Gm p e below s₁ m 10 #[iv p0, iv p1, .unset, .unset, .unset, .unset, .unset, .unset, .unset, .unset, .unset] [] _
    refine own_go (fun t₀ k₀ => XS.iconst X0.here hx rfl (Jvm.hb hby at_10) k₀) ?_
    show Gm p e below s₁ m 11 #[iv p0, iv p1, .unset, .unset, .unset, .unset, .unset, .unset, .unset, .unset, .unset] [(.int (0 : Int32))] _
    refine own_go (fun t₀ k₀ => XS.istoreN X0.here hx rfl (Jvm.hb hby at_11) rfl (l' := #[iv p0, iv p1, iv (0 : Int32), .unset, .unset, .unset, .unset, .unset, .unset, .unset, .unset]) rfl k₀) ?_
    show Gm p e below s₁ m 12 #[iv p0, iv p1, iv (0 : Int32), .unset, .unset, .unset, .unset, .unset, .unset, .unset, .unset] [] _
    refine own_go (fun t₀ k₀ => XS.iloadN X0.here hx rfl (Jvm.hb hby at_12) rfl k₀) ?_
    show Gm p e below s₁ m 13 #[iv p0, iv p1, iv (0 : Int32), .unset, .unset, .unset, .unset, .unset, .unset, .unset, .unset] [(.int p0)] _
    refine own_go (fun t₀ k₀ => XS.iconst X0.here hx rfl (Jvm.hb hby at_13) k₀) ?_
    show Gm p e below s₁ m 14 #[iv p0, iv p1, iv (0 : Int32), .unset, .unset, .unset, .unset, .unset, .unset, .unset, .unset] [(.int (2 : Int32)), (.int p0)] _
    refine own_go (fun t₀ k₀ => XS.iand X0.here hx rfl (Jvm.hb hby at_14) rfl k₀) ?_
    show Gm p e below s₁ m 15 #[iv p0, iv p1, iv (0 : Int32), .unset, .unset, .unset, .unset, .unset, .unset, .unset, .unset] [(.int (p0 &&& (2 : Int32)))] _
    by_cases c2 : (p0 &&& (2 : Int32)) = (0 : Int32)
    · have hfork := trivial
      refine own_go (fun t₀ k₀ => XS.ifYes X0.here hx rfl (pc0 := 15) (pc' := 22) rfl (Jvm.hb hby at_15) rfl (XT.i0_eq_t c2) (by decide) (by decide) k₀) ?_
      show Gm p e below s₁ m 22 #[iv p0, iv p1, iv (0 : Int32), .unset, .unset, .unset, .unset, .unset, .unset, .unset, .unset] [] _
      refine own_go (fun t₀ k₀ => XS.iconst X0.here hx rfl (Jvm.hb hby at_22) k₀) ?_
      show Gm p e below s₁ m 23 #[iv p0, iv p1, iv (0 : Int32), .unset, .unset, .unset, .unset, .unset, .unset, .unset, .unset] [(.int (0 : Int32))] _
      refine own_go (fun t₀ k₀ => XS.istoreN X0.here hx rfl (Jvm.hb hby at_23) rfl (l' := #[iv p0, iv p1, iv (0 : Int32), iv (0 : Int32), .unset, .unset, .unset, .unset, .unset, .unset, .unset]) rfl k₀) ?_
      show Gm p e below s₁ m 24 #[iv p0, iv p1, iv (0 : Int32), iv (0 : Int32), .unset, .unset, .unset, .unset, .unset, .unset, .unset] [] _
      refine own_go (fun t₀ k₀ => XS.iloadN X0.here hx rfl (Jvm.hb hby at_24) rfl k₀) ?_
      show Gm p e below s₁ m 25 #[iv p0, iv p1, iv (0 : Int32), iv (0 : Int32), .unset, .unset, .unset, .unset, .unset, .unset, .unset] [(.int p1)] _
      obtain ⟨_, _, ⟨T3, L3, k3, n3⟩, -, X3, ⟨Lc3, hQ3, l3, y3, z3⟩, st3⟩ := Jvm.LawKit.callS X0 hx (y := (⟨"com/example/outlay/outlay/nacha/ServiceClassHoldingPinLaw", "creditCode", "(I)Lcom/example/outlay/outlay/nacha/TransactionCode;"⟩ : MethodName)) hown (mvT hZ (hw _ (List.mem_of_getElem? (i := 0) rfl))) (mvT hZ (hw _ (List.mem_of_getElem? (i := 1) rfl))) (mvT hZ (hw _ (List.mem_of_getElem? (i := 2) rfl))) (mvT hZ (hw _ (List.mem_of_getElem? (i := 3) rfl))) (by decide) (backOf (W := 0) (rm1 l Z a0 hw [] p1 w0 w1 w2 w3 h0 n0 Z0 S_w0 S_w1 S_w2 S_w3) hZ (hw _ (List.mem_of_getElem? (i := 3) rfl)) (hw _ (List.mem_of_getElem? (i := 2) rfl)) (by decide) (by decide)) (g := (mkF m 25 #[iv p0, iv p1, iv (0 : Int32), iv (0 : Int32), .unset, .unset, .unset, .unset, .unset, .unset, .unset] [(.int p1)])) rfl (by rw [hml]; rfl) (argsL := [(.int p1)]) (rest := []) (lenOf own_pd5 rfl) rfl (by show 2 * 0 + _ ≤ _; exact Nat.le_of_eq rfl) (Jvm.hb hby at_25) (fun _ _ => ⟨rfl, e0, (by decide : 0 + 0 ≤ _), (by decide : 0 + 0 ≤ _)⟩)
      dsimp only [Pt.U, Pt.locs, Pt.cells, Pt.slots] at X3 l3 y3 z3 st3 hQ3
      subst l3 y3 z3
      obtain ⟨rfl, Nq3, eq3⟩ := hQ3
      have N3 := Fr.app N0 Nq3
      have e3 : T3.heap = h0 := eq3
      refine own_go st3 ?_
      show Gm p e below T3 m 28 #[iv p0, iv p1, iv (0 : Int32), iv (0 : Int32), .unset, .unset, .unset, .unset, .unset, .unset, .unset] [(.ref (fC p1 w0 w1 w2 w3))] _
      refine own_go (fun t₀ k₀ => XS.astore X3.here hx rfl (Jvm.hb hby at_28) rfl rfl (l' := #[iv p0, iv p1, iv (0 : Int32), iv (0 : Int32), rv (fC p1 w0 w1 w2 w3), .unset, .unset, .unset, .unset, .unset, .unset]) rfl k₀) ?_
      show Gm p e below T3 m 30 #[iv p0, iv p1, iv (0 : Int32), iv (0 : Int32), rv (fC p1 w0 w1 w2 w3), .unset, .unset, .unset, .unset, .unset, .unset] [] _
      refine own_go (fun t₀ k₀ => XS.iloadN X3.here hx rfl (Jvm.hb hby at_30) rfl k₀) ?_
      show Gm p e below T3 m 31 #[iv p0, iv p1, iv (0 : Int32), iv (0 : Int32), rv (fC p1 w0 w1 w2 w3), .unset, .unset, .unset, .unset, .unset, .unset] [(.int p1)] _
      refine own_go (fun t₀ k₀ => XS.iconst X3.here hx rfl (Jvm.hb hby at_31) k₀) ?_
      show Gm p e below T3 m 32 #[iv p0, iv p1, iv (0 : Int32), iv (0 : Int32), rv (fC p1 w0 w1 w2 w3), .unset, .unset, .unset, .unset, .unset, .unset] [(.int (2 : Int32)), (.int p1)] _
      refine own_go (fun t₀ k₀ => XS.ishr X3.here hx rfl (Jvm.hb hby at_32) rfl k₀) ?_
      show Gm p e below T3 m 33 #[iv p0, iv p1, iv (0 : Int32), iv (0 : Int32), rv (fC p1 w0 w1 w2 w3), .unset, .unset, .unset, .unset, .unset, .unset] [(.int (p1 >>> ((2 : Int32) &&& 31)))] _
      obtain ⟨_, _, ⟨T4, L4, k4, n4⟩, -, X4, ⟨Lc4, hQ4, l4, y4, z4⟩, st4⟩ := Jvm.LawKit.callS X3 hx (y := (⟨"com/example/outlay/outlay/nacha/ServiceClassHoldingPinLaw", "debitCode", "(I)Lcom/example/outlay/outlay/nacha/TransactionCode;"⟩ : MethodName)) hown (mvT hZ (hw _ (List.mem_of_getElem? (i := 7) rfl))) (mvT hZ (hw _ (List.mem_of_getElem? (i := 8) rfl))) (mvT hZ (hw _ (List.mem_of_getElem? (i := 2) rfl))) (mvT hZ (hw _ (List.mem_of_getElem? (i := 9) rfl))) (by decide) (backOf (W := 0) (rm2 l Z a0 hw [] (p1 >>> ((2 : Int32) &&& 31)) w4 w5 w6 w7 h0 n0 Z0 S_w4 S_w5 S_w6 S_w7) hZ (hw _ (List.mem_of_getElem? (i := 9) rfl)) (hw _ (List.mem_of_getElem? (i := 2) rfl)) (by decide) (by decide)) (g := (mkF m 33 #[iv p0, iv p1, iv (0 : Int32), iv (0 : Int32), rv (fC p1 w0 w1 w2 w3), .unset, .unset, .unset, .unset, .unset, .unset] [(.int (p1 >>> ((2 : Int32) &&& 31)))])) rfl (by rw [hml]; rfl) (argsL := [(.int (p1 >>> ((2 : Int32) &&& 31)))]) (rest := []) (lenOf own_pd5 rfl) rfl (by show 2 * 0 + _ ≤ _; exact Nat.le_of_eq rfl) (Jvm.hb hby at_33) (fun _ _ => ⟨rfl, e3, (by decide : 0 + 0 ≤ _), (by decide : 0 + 0 ≤ _)⟩)
      dsimp only [Pt.U, Pt.locs, Pt.cells, Pt.slots] at X4 l4 y4 z4 st4 hQ4
      subst l4 y4 z4
      obtain ⟨rfl, Nq4, eq4⟩ := hQ4
      have N4 := Fr.app N3 Nq4
      have e4 : T4.heap = h0 := eq4
      refine own_go st4 ?_
      show Gm p e below T4 m 36 #[iv p0, iv p1, iv (0 : Int32), iv (0 : Int32), rv (fC p1 w0 w1 w2 w3), .unset, .unset, .unset, .unset, .unset, .unset] [(.ref (fB (p1 >>> ((2 : Int32) &&& 31)) w4 w5 w6 w7))] _
      refine own_go (fun t₀ k₀ => XS.astore X4.here hx rfl (Jvm.hb hby at_36) rfl rfl (l' := #[iv p0, iv p1, iv (0 : Int32), iv (0 : Int32), rv (fC p1 w0 w1 w2 w3), rv (fB (p1 >>> ((2 : Int32) &&& 31)) w4 w5 w6 w7), .unset, .unset, .unset, .unset, .unset]) rfl k₀) ?_
      show Gm p e below T4 m 38 #[iv p0, iv p1, iv (0 : Int32), iv (0 : Int32), rv (fC p1 w0 w1 w2 w3), rv (fB (p1 >>> ((2 : Int32) &&& 31)) w4 w5 w6 w7), .unset, .unset, .unset, .unset, .unset] [] _
      refine own_go (fun t₀ k₀ => XS.iloadN X4.here hx rfl (Jvm.hb hby at_38) rfl k₀) ?_
      show Gm p e below T4 m 39 #[iv p0, iv p1, iv (0 : Int32), iv (0 : Int32), rv (fC p1 w0 w1 w2 w3), rv (fB (p1 >>> ((2 : Int32) &&& 31)) w4 w5 w6 w7), .unset, .unset, .unset, .unset, .unset] [(.int (0 : Int32))] _
      refine own_go (fun t₀ k₀ => XS.iloadN X4.here hx rfl (Jvm.hb hby at_39) rfl k₀) ?_
      show Gm p e below T4 m 40 #[iv p0, iv p1, iv (0 : Int32), iv (0 : Int32), rv (fC p1 w0 w1 w2 w3), rv (fB (p1 >>> ((2 : Int32) &&& 31)) w4 w5 w6 w7), .unset, .unset, .unset, .unset, .unset] [(.int (0 : Int32)), (.int (0 : Int32))] _
      obtain ⟨_, _, ⟨T5, L5, k5, n5⟩, -, X5, ⟨Lc5, hQ5, l5, y5, z5⟩, st5⟩ := Jvm.LawKit.callS X4 hx (y := (⟨"com/example/outlay/outlay/nacha/ServiceClass", "holding", "(ZZ)Lcom/example/outlay/outlay/nacha/ServiceClass;"⟩ : MethodName)) hown (mvT hZ (hw _ (List.mem_of_getElem? (i := 12) rfl))) (mvT hZ (hw _ (List.mem_of_getElem? (i := 13) rfl))) (mvT hZ (hw _ (List.mem_of_getElem? (i := 14) rfl))) (mvT hZ (hw _ (List.mem_of_getElem? (i := 15) rfl))) (by decide) (backOf (W := 0) (rm3 l Z a0 hw [] (0 : Int32) (0 : Int32) wM wC wD h0 n0 Z0 S_wM S_wC S_wD) hZ (hw _ (List.mem_of_getElem? (i := 15) rfl)) (hw _ (List.mem_of_getElem? (i := 14) rfl)) (by decide) (by decide)) (g := (mkF m 40 #[iv p0, iv p1, iv (0 : Int32), iv (0 : Int32), rv (fC p1 w0 w1 w2 w3), rv (fB (p1 >>> ((2 : Int32) &&& 31)) w4 w5 w6 w7), .unset, .unset, .unset, .unset, .unset] [(.int (0 : Int32)), (.int (0 : Int32))])) rfl (by rw [hml]; rfl) (argsL := [(.int (0 : Int32)), (.int (0 : Int32))]) (rest := []) (lenOf own_pd6 rfl) rfl (by show 2 * 0 + _ ≤ _; exact Nat.le_of_eq rfl) (Jvm.hb hby at_40) (fun _ _ => ⟨rfl, e4, (by decide : 0 + 0 ≤ _), (by decide : 0 + 0 ≤ _)⟩)
      dsimp only [Pt.U, Pt.locs, Pt.cells, Pt.slots] at X5 l5 y5 z5 st5 hQ5
      subst l5 y5 z5
      obtain ⟨rfl, Nq5, eq5⟩ := hQ5
      have N5 := Fr.app N4 Nq5
      have e5 : T5.heap = h0 := eq5
      refine own_go st5 ?_
      show Gm p e below T5 m 43 #[iv p0, iv p1, iv (0 : Int32), iv (0 : Int32), rv (fC p1 w0 w1 w2 w3), rv (fB (p1 >>> ((2 : Int32) &&& 31)) w4 w5 w6 w7), .unset, .unset, .unset, .unset, .unset] [(.ref wC)] _
      refine own_go (fun t₀ k₀ => XS.astore X5.here hx rfl (Jvm.hb hby at_43) rfl rfl (l' := #[iv p0, iv p1, iv (0 : Int32), iv (0 : Int32), rv (fC p1 w0 w1 w2 w3), rv (fB (p1 >>> ((2 : Int32) &&& 31)) w4 w5 w6 w7), rv wC, .unset, .unset, .unset, .unset]) rfl k₀) ?_
      show Gm p e below T5 m 45 #[iv p0, iv p1, iv (0 : Int32), iv (0 : Int32), rv (fC p1 w0 w1 w2 w3), rv (fB (p1 >>> ((2 : Int32) &&& 31)) w4 w5 w6 w7), rv wC, .unset, .unset, .unset, .unset] [] _
      refine own_go (fun t₀ k₀ => XS.aload X5.here hx rfl (Jvm.hb hby at_45) rfl rfl k₀) ?_
      show Gm p e below T5 m 47 #[iv p0, iv p1, iv (0 : Int32), iv (0 : Int32), rv (fC p1 w0 w1 w2 w3), rv (fB (p1 >>> ((2 : Int32) &&& 31)) w4 w5 w6 w7), rv wC, .unset, .unset, .unset, .unset] [(.ref wC)] _
      refine own_go (fun t₀ k₀ => XS.ifnonnullYes X5.here hx rfl (pc0 := 47) (pc' := 52) rfl (Jvm.hb hby at_47) rfl (by decide) (by decide) k₀) ?_
      show Gm p e below T5 m 52 #[iv p0, iv p1, iv (0 : Int32), iv (0 : Int32), rv (fC p1 w0 w1 w2 w3), rv (fB (p1 >>> ((2 : Int32) &&& 31)) w4 w5 w6 w7), rv wC, .unset, .unset, .unset, .unset] [] _
      refine own_go (fun t₀ k₀ => XS.aload X5.here hx rfl (Jvm.hb hby at_52) rfl rfl k₀) ?_
      show Gm p e below T5 m 54 #[iv p0, iv p1, iv (0 : Int32), iv (0 : Int32), rv (fC p1 w0 w1 w2 w3), rv (fB (p1 >>> ((2 : Int32) &&& 31)) w4 w5 w6 w7), rv wC, .unset, .unset, .unset, .unset] [(.ref wC)] _
      refine own_go (fun t₀ k₀ => XS.aload X5.here hx rfl (Jvm.hb hby at_54) rfl rfl k₀) ?_
      show Gm p e below T5 m 56 #[iv p0, iv p1, iv (0 : Int32), iv (0 : Int32), rv (fC p1 w0 w1 w2 w3), rv (fB (p1 >>> ((2 : Int32) &&& 31)) w4 w5 w6 w7), rv wC, .unset, .unset, .unset, .unset] [(.ref (fC p1 w0 w1 w2 w3)), (.ref wC)] _
      obtain ⟨cq6, kq6, q6a, q6b, q6c⟩ := isOf hZ e5 E_wC
      obtain ⟨_, _, ⟨T6, L6, k6, n6⟩, -, X6, ⟨Lc6, hQ6, l6, y6, z6⟩, st6⟩ := X5.virtualBack hx (y := (⟨"com/example/outlay/outlay/nacha/ServiceClass", "allows", "(Lcom/example/outlay/outlay/nacha/TransactionCode;)Z"⟩ : MethodName)) (z := (⟨"com/example/outlay/outlay/nacha/ServiceClass", "allows", "(Lcom/example/outlay/outlay/nacha/TransactionCode;)Z"⟩ : MethodName)) hown (mvT hZ (hw _ (List.mem_of_getElem? (i := 18) rfl))) (mvT hZ (hw _ (List.mem_of_getElem? (i := 19) rfl))) (notFace_of_selects (args := #[]) (mvT hZ (hw _ (List.mem_of_getElem? (i := 21) rfl)))) (mvT hZ (hw _ (List.mem_of_getElem? (i := 21) rfl))) (mvT hZ (hw _ (List.mem_of_getElem? (i := 20) rfl))) (by decide) (backOf (W := 0) (rm4 l Z a0 hw [] wC (fC p1 w0 w1 w2 w3) (bC p1) wM wD cs w h0 n0 Z0 (own_tcC p1 Hw0 Hw1 Hw2 Hw3) S_wM S_wD S_c hcs S_f hv_w) hZ (hw _ (List.mem_of_getElem? (i := 22) rfl)) (hw _ (List.mem_of_getElem? (i := 14) rfl)) (by decide) (by decide)) q6a q6c (g := (mkF m 56 #[iv p0, iv p1, iv (0 : Int32), iv (0 : Int32), rv (fC p1 w0 w1 w2 w3), rv (fB (p1 >>> ((2 : Int32) &&& 31)) w4 w5 w6 w7), rv wC, .unset, .unset, .unset, .unset] [(.ref (fC p1 w0 w1 w2 w3)), (.ref wC)])) rfl (by rw [hml]; rfl) (Steps.refl _) (argsL := [(.ref (fC p1 w0 w1 w2 w3))]) (rest := []) (lenOf own_pd7 rfl) rfl (by show 2 * 0 + _ ≤ _; exact Nat.le_of_eq rfl) (Jvm.hb hby at_56) (fun _ _ => ⟨rfl, e5, (by decide : 0 + 0 ≤ _), (by decide : 0 + 0 ≤ _)⟩)
      dsimp only [Pt.U, Pt.locs, Pt.cells, Pt.slots] at X6 l6 y6 z6 st6 hQ6
      subst l6 y6 z6
      obtain ⟨rfl, Nq6, eq6⟩ := hQ6
      have N6 := Fr.app N5 Nq6
      have e6 : T6.heap = h0 := eq6
      refine own_go (fun t k => st6.trans k) ?_
      show Gm p e below T6 m 59 #[iv p0, iv p1, iv (0 : Int32), iv (0 : Int32), rv (fC p1 w0 w1 w2 w3), rv (fB (p1 >>> ((2 : Int32) &&& 31)) w4 w5 w6 w7), rv wC, .unset, .unset, .unset, .unset] [(.int (fA wC (bC p1) wM wD))] _
      refine own_go (fun t₀ k₀ => XS.istore X6.here hx rfl (Jvm.hb hby at_59) rfl (l' := #[iv p0, iv p1, iv (0 : Int32), iv (0 : Int32), rv (fC p1 w0 w1 w2 w3), rv (fB (p1 >>> ((2 : Int32) &&& 31)) w4 w5 w6 w7), rv wC, iv (fA wC (bC p1) wM wD), .unset, .unset, .unset]) rfl k₀) ?_
      show Gm p e below T6 m 61 #[iv p0, iv p1, iv (0 : Int32), iv (0 : Int32), rv (fC p1 w0 w1 w2 w3), rv (fB (p1 >>> ((2 : Int32) &&& 31)) w4 w5 w6 w7), rv wC, iv (fA wC (bC p1) wM wD), .unset, .unset, .unset] [] _
      refine own_go (fun t₀ k₀ => XS.aload X6.here hx rfl (Jvm.hb hby at_61) rfl rfl k₀) ?_
      show Gm p e below T6 m 63 #[iv p0, iv p1, iv (0 : Int32), iv (0 : Int32), rv (fC p1 w0 w1 w2 w3), rv (fB (p1 >>> ((2 : Int32) &&& 31)) w4 w5 w6 w7), rv wC, iv (fA wC (bC p1) wM wD), .unset, .unset, .unset] [(.ref wC)] _
      refine own_go (fun t₀ k₀ => XS.aload X6.here hx rfl (Jvm.hb hby at_63) rfl rfl k₀) ?_
      show Gm p e below T6 m 65 #[iv p0, iv p1, iv (0 : Int32), iv (0 : Int32), rv (fC p1 w0 w1 w2 w3), rv (fB (p1 >>> ((2 : Int32) &&& 31)) w4 w5 w6 w7), rv wC, iv (fA wC (bC p1) wM wD), .unset, .unset, .unset] [(.ref (fB (p1 >>> ((2 : Int32) &&& 31)) w4 w5 w6 w7)), (.ref wC)] _
      obtain ⟨cq7, kq7, q7a, q7b, q7c⟩ := isOf hZ e6 E_wC
      obtain ⟨_, _, ⟨T7, L7, k7, n7⟩, -, X7, ⟨Lc7, hQ7, l7, y7, z7⟩, st7⟩ := X6.virtualBack hx (y := (⟨"com/example/outlay/outlay/nacha/ServiceClass", "allows", "(Lcom/example/outlay/outlay/nacha/TransactionCode;)Z"⟩ : MethodName)) (z := (⟨"com/example/outlay/outlay/nacha/ServiceClass", "allows", "(Lcom/example/outlay/outlay/nacha/TransactionCode;)Z"⟩ : MethodName)) hown (mvT hZ (hw _ (List.mem_of_getElem? (i := 18) rfl))) (mvT hZ (hw _ (List.mem_of_getElem? (i := 19) rfl))) (notFace_of_selects (args := #[]) (mvT hZ (hw _ (List.mem_of_getElem? (i := 21) rfl)))) (mvT hZ (hw _ (List.mem_of_getElem? (i := 21) rfl))) (mvT hZ (hw _ (List.mem_of_getElem? (i := 20) rfl))) (by decide) (backOf (W := 0) (rm4 l Z a0 hw [] wC (fB (p1 >>> ((2 : Int32) &&& 31)) w4 w5 w6 w7) (bD (p1 >>> ((2 : Int32) &&& 31))) wM wD cs w h0 n0 Z0 (own_tcD (p1 >>> ((2 : Int32) &&& 31)) Hw4 Hw5 Hw6 Hw7) S_wM S_wD S_c hcs S_f hv_w) hZ (hw _ (List.mem_of_getElem? (i := 22) rfl)) (hw _ (List.mem_of_getElem? (i := 14) rfl)) (by decide) (by decide)) q7a q7c (g := (mkF m 65 #[iv p0, iv p1, iv (0 : Int32), iv (0 : Int32), rv (fC p1 w0 w1 w2 w3), rv (fB (p1 >>> ((2 : Int32) &&& 31)) w4 w5 w6 w7), rv wC, iv (fA wC (bC p1) wM wD), .unset, .unset, .unset] [(.ref (fB (p1 >>> ((2 : Int32) &&& 31)) w4 w5 w6 w7)), (.ref wC)])) rfl (by rw [hml]; rfl) (Steps.refl _) (argsL := [(.ref (fB (p1 >>> ((2 : Int32) &&& 31)) w4 w5 w6 w7))]) (rest := []) (lenOf own_pd7 rfl) rfl (by show 2 * 0 + _ ≤ _; exact Nat.le_of_eq rfl) (Jvm.hb hby at_65) (fun _ _ => ⟨rfl, e6, (by decide : 0 + 0 ≤ _), (by decide : 0 + 0 ≤ _)⟩)
      dsimp only [Pt.U, Pt.locs, Pt.cells, Pt.slots] at X7 l7 y7 z7 st7 hQ7
      subst l7 y7 z7
      obtain ⟨rfl, Nq7, eq7⟩ := hQ7
      have N7 := Fr.app N6 Nq7
      have e7 : T7.heap = h0 := eq7
      refine own_go (fun t k => st7.trans k) ?_
      show Gm p e below T7 m 68 #[iv p0, iv p1, iv (0 : Int32), iv (0 : Int32), rv (fC p1 w0 w1 w2 w3), rv (fB (p1 >>> ((2 : Int32) &&& 31)) w4 w5 w6 w7), rv wC, iv (fA wC (bC p1) wM wD), .unset, .unset, .unset] [(.int (fA wC (bD (p1 >>> ((2 : Int32) &&& 31))) wM wD))] _
      refine own_go (fun t₀ k₀ => XS.istore X7.here hx rfl (Jvm.hb hby at_68) rfl (l' := #[iv p0, iv p1, iv (0 : Int32), iv (0 : Int32), rv (fC p1 w0 w1 w2 w3), rv (fB (p1 >>> ((2 : Int32) &&& 31)) w4 w5 w6 w7), rv wC, iv (fA wC (bC p1) wM wD), iv (fA wC (bD (p1 >>> ((2 : Int32) &&& 31))) wM wD), .unset, .unset]) rfl k₀) ?_
      show Gm p e below T7 m 70 #[iv p0, iv p1, iv (0 : Int32), iv (0 : Int32), rv (fC p1 w0 w1 w2 w3), rv (fB (p1 >>> ((2 : Int32) &&& 31)) w4 w5 w6 w7), rv wC, iv (fA wC (bC p1) wM wD), iv (fA wC (bD (p1 >>> ((2 : Int32) &&& 31))) wM wD), .unset, .unset] [] _
      refine own_go (fun t₀ k₀ => XS.iloadN X7.here hx rfl (Jvm.hb hby at_70) rfl k₀) ?_
      show Gm p e below T7 m 71 #[iv p0, iv p1, iv (0 : Int32), iv (0 : Int32), rv (fC p1 w0 w1 w2 w3), rv (fB (p1 >>> ((2 : Int32) &&& 31)) w4 w5 w6 w7), rv wC, iv (fA wC (bC p1) wM wD), iv (fA wC (bD (p1 >>> ((2 : Int32) &&& 31))) wM wD), .unset, .unset] [(.int (0 : Int32))] _
      refine own_go (fun t₀ k₀ => XS.ifNo X7.here hx rfl (Jvm.hb hby at_71) rfl (XT.i0_ne_f (by decide)) k₀) ?_
      show Gm p e below T7 m 74 #[iv p0, iv p1, iv (0 : Int32), iv (0 : Int32), rv (fC p1 w0 w1 w2 w3), rv (fB (p1 >>> ((2 : Int32) &&& 31)) w4 w5 w6 w7), rv wC, iv (fA wC (bC p1) wM wD), iv (fA wC (bD (p1 >>> ((2 : Int32) &&& 31))) wM wD), .unset, .unset] [] _
      refine own_go (fun t₀ k₀ => XS.iloadN X7.here hx rfl (Jvm.hb hby at_74) rfl k₀) ?_
      show Gm p e below T7 m 75 #[iv p0, iv p1, iv (0 : Int32), iv (0 : Int32), rv (fC p1 w0 w1 w2 w3), rv (fB (p1 >>> ((2 : Int32) &&& 31)) w4 w5 w6 w7), rv wC, iv (fA wC (bC p1) wM wD), iv (fA wC (bD (p1 >>> ((2 : Int32) &&& 31))) wM wD), .unset, .unset] [(.int (0 : Int32))] _
      refine own_go (fun t₀ k₀ => XS.ifNo X7.here hx rfl (Jvm.hb hby at_75) rfl (XT.i0_ne_f (by decide)) k₀) ?_
      show Gm p e below T7 m 78 #[iv p0, iv p1, iv (0 : Int32), iv (0 : Int32), rv (fC p1 w0 w1 w2 w3), rv (fB (p1 >>> ((2 : Int32) &&& 31)) w4 w5 w6 w7), rv wC, iv (fA wC (bC p1) wM wD), iv (fA wC (bD (p1 >>> ((2 : Int32) &&& 31))) wM wD), .unset, .unset] [] _
      refine own_go (fun t₀ k₀ => XS.iconst X7.here hx rfl (Jvm.hb hby at_78) k₀) ?_
      show Gm p e below T7 m 79 #[iv p0, iv p1, iv (0 : Int32), iv (0 : Int32), rv (fC p1 w0 w1 w2 w3), rv (fB (p1 >>> ((2 : Int32) &&& 31)) w4 w5 w6 w7), rv wC, iv (fA wC (bC p1) wM wD), iv (fA wC (bD (p1 >>> ((2 : Int32) &&& 31))) wM wD), .unset, .unset] [(.int (1 : Int32))] _
      refine own_go (fun t₀ k₀ => XS.goto X7.here hx rfl (pc0 := 79) (pc' := 83) rfl (Jvm.hb hby at_79) (by decide) (by decide) k₀) ?_
      show Gm p e below T7 m 83 #[iv p0, iv p1, iv (0 : Int32), iv (0 : Int32), rv (fC p1 w0 w1 w2 w3), rv (fB (p1 >>> ((2 : Int32) &&& 31)) w4 w5 w6 w7), rv wC, iv (fA wC (bC p1) wM wD), iv (fA wC (bD (p1 >>> ((2 : Int32) &&& 31))) wM wD), .unset, .unset] [(.int (1 : Int32))] _
      refine own_go (fun t₀ k₀ => XS.istore X7.here hx rfl (Jvm.hb hby at_83) rfl (l' := #[iv p0, iv p1, iv (0 : Int32), iv (0 : Int32), rv (fC p1 w0 w1 w2 w3), rv (fB (p1 >>> ((2 : Int32) &&& 31)) w4 w5 w6 w7), rv wC, iv (fA wC (bC p1) wM wD), iv (fA wC (bD (p1 >>> ((2 : Int32) &&& 31))) wM wD), iv (1 : Int32), .unset]) rfl k₀) ?_
      show Gm p e below T7 m 85 #[iv p0, iv p1, iv (0 : Int32), iv (0 : Int32), rv (fC p1 w0 w1 w2 w3), rv (fB (p1 >>> ((2 : Int32) &&& 31)) w4 w5 w6 w7), rv wC, iv (fA wC (bC p1) wM wD), iv (fA wC (bD (p1 >>> ((2 : Int32) &&& 31))) wM wD), iv (1 : Int32), .unset] [] _
      refine own_go (fun t₀ k₀ => XS.iloadN X7.here hx rfl (Jvm.hb hby at_85) rfl k₀) ?_
      show Gm p e below T7 m 86 #[iv p0, iv p1, iv (0 : Int32), iv (0 : Int32), rv (fC p1 w0 w1 w2 w3), rv (fB (p1 >>> ((2 : Int32) &&& 31)) w4 w5 w6 w7), rv wC, iv (fA wC (bC p1) wM wD), iv (fA wC (bD (p1 >>> ((2 : Int32) &&& 31))) wM wD), iv (1 : Int32), .unset] [(.int (0 : Int32))] _
      refine own_go (fun t₀ k₀ => XS.istore X7.here hx rfl (Jvm.hb hby at_86) rfl (l' := #[iv p0, iv p1, iv (0 : Int32), iv (0 : Int32), rv (fC p1 w0 w1 w2 w3), rv (fB (p1 >>> ((2 : Int32) &&& 31)) w4 w5 w6 w7), rv wC, iv (fA wC (bC p1) wM wD), iv (fA wC (bD (p1 >>> ((2 : Int32) &&& 31))) wM wD), iv (1 : Int32), iv (0 : Int32)]) rfl k₀) ?_
      show Gm p e below T7 m 88 #[iv p0, iv p1, iv (0 : Int32), iv (0 : Int32), rv (fC p1 w0 w1 w2 w3), rv (fB (p1 >>> ((2 : Int32) &&& 31)) w4 w5 w6 w7), rv wC, iv (fA wC (bC p1) wM wD), iv (fA wC (bD (p1 >>> ((2 : Int32) &&& 31))) wM wD), iv (1 : Int32), iv (0 : Int32)] [] _
      refine own_go (fun t₀ k₀ => XS.iload X7.here hx rfl (Jvm.hb hby at_88) rfl k₀) ?_
      show Gm p e below T7 m 90 #[iv p0, iv p1, iv (0 : Int32), iv (0 : Int32), rv (fC p1 w0 w1 w2 w3), rv (fB (p1 >>> ((2 : Int32) &&& 31)) w4 w5 w6 w7), rv wC, iv (fA wC (bC p1) wM wD), iv (fA wC (bD (p1 >>> ((2 : Int32) &&& 31))) wM wD), iv (1 : Int32), iv (0 : Int32)] [(.int (fA wC (bC p1) wM wD))] _
      refine own_go (fun t₀ k₀ => XS.iload X7.here hx rfl (Jvm.hb hby at_90) rfl k₀) ?_
      show Gm p e below T7 m 92 #[iv p0, iv p1, iv (0 : Int32), iv (0 : Int32), rv (fC p1 w0 w1 w2 w3), rv (fB (p1 >>> ((2 : Int32) &&& 31)) w4 w5 w6 w7), rv wC, iv (fA wC (bC p1) wM wD), iv (fA wC (bD (p1 >>> ((2 : Int32) &&& 31))) wM wD), iv (1 : Int32), iv (0 : Int32)] [(.int (1 : Int32)), (.int (fA wC (bC p1) wM wD))] _
      refine own_go (fun t₀ k₀ => XS.icmpNo X7.here hx rfl (Jvm.hb hby at_92) rfl (XT.ii_ne_f (own_Cc _ _ _ _ n_CM n_CD (own_fC _))) k₀) ?_
      show Gm p e below T7 m 95 #[iv p0, iv p1, iv (0 : Int32), iv (0 : Int32), rv (fC p1 w0 w1 w2 w3), rv (fB (p1 >>> ((2 : Int32) &&& 31)) w4 w5 w6 w7), rv wC, iv (fA wC (bC p1) wM wD), iv (fA wC (bD (p1 >>> ((2 : Int32) &&& 31))) wM wD), iv (1 : Int32), iv (0 : Int32)] [] _
      refine own_go (fun t₀ k₀ => XS.iload X7.here hx rfl (Jvm.hb hby at_95) rfl k₀) ?_
      show Gm p e below T7 m 97 #[iv p0, iv p1, iv (0 : Int32), iv (0 : Int32), rv (fC p1 w0 w1 w2 w3), rv (fB (p1 >>> ((2 : Int32) &&& 31)) w4 w5 w6 w7), rv wC, iv (fA wC (bC p1) wM wD), iv (fA wC (bD (p1 >>> ((2 : Int32) &&& 31))) wM wD), iv (1 : Int32), iv (0 : Int32)] [(.int (fA wC (bD (p1 >>> ((2 : Int32) &&& 31))) wM wD))] _
      refine own_go (fun t₀ k₀ => XS.iload X7.here hx rfl (Jvm.hb hby at_97) rfl k₀) ?_
      show Gm p e below T7 m 99 #[iv p0, iv p1, iv (0 : Int32), iv (0 : Int32), rv (fC p1 w0 w1 w2 w3), rv (fB (p1 >>> ((2 : Int32) &&& 31)) w4 w5 w6 w7), rv wC, iv (fA wC (bC p1) wM wD), iv (fA wC (bD (p1 >>> ((2 : Int32) &&& 31))) wM wD), iv (1 : Int32), iv (0 : Int32)] [(.int (0 : Int32)), (.int (fA wC (bD (p1 >>> ((2 : Int32) &&& 31))) wM wD))] _
      refine own_go (fun t₀ k₀ => XS.icmpNo X7.here hx rfl (Jvm.hb hby at_99) rfl (XT.ii_ne_f (own_Cd _ _ _ _ n_CM n_CD (own_fD _))) k₀) ?_
      show Gm p e below T7 m 102 #[iv p0, iv p1, iv (0 : Int32), iv (0 : Int32), rv (fC p1 w0 w1 w2 w3), rv (fB (p1 >>> ((2 : Int32) &&& 31)) w4 w5 w6 w7), rv wC, iv (fA wC (bC p1) wM wD), iv (fA wC (bD (p1 >>> ((2 : Int32) &&& 31))) wM wD), iv (1 : Int32), iv (0 : Int32)] [] _
      refine own_go (fun t₀ k₀ => XS.iconst X7.here hx rfl (Jvm.hb hby at_102) k₀) ?_
      show Gm p e below T7 m 103 #[iv p0, iv p1, iv (0 : Int32), iv (0 : Int32), rv (fC p1 w0 w1 w2 w3), rv (fB (p1 >>> ((2 : Int32) &&& 31)) w4 w5 w6 w7), rv wC, iv (fA wC (bC p1) wM wD), iv (fA wC (bD (p1 >>> ((2 : Int32) &&& 31))) wM wD), iv (1 : Int32), iv (0 : Int32)] [(.int (1 : Int32))] _
      refine own_go (fun t₀ k₀ => XS.goto X7.here hx rfl (pc0 := 103) (pc' := 107) rfl (Jvm.hb hby at_103) (by decide) (by decide) k₀) ?_
      show Gm p e below T7 m 107 #[iv p0, iv p1, iv (0 : Int32), iv (0 : Int32), rv (fC p1 w0 w1 w2 w3), rv (fB (p1 >>> ((2 : Int32) &&& 31)) w4 w5 w6 w7), rv wC, iv (fA wC (bC p1) wM wD), iv (fA wC (bD (p1 >>> ((2 : Int32) &&& 31))) wM wD), iv (1 : Int32), iv (0 : Int32)] [(.int (1 : Int32))] _
      exact own_retI X7 hx hlk (t := .boolean) Bd.returns rfl (by simp) (Jvm.hb hby at_107) e7 ⟨rfl, N7⟩ (by decide) (by decide)
    · have hfork := trivial
      refine own_go (fun t₀ k₀ => XS.ifNo X0.here hx rfl (Jvm.hb hby at_15) rfl (XT.i0_eq_f c2) k₀) ?_
      show Gm p e below s₁ m 18 #[iv p0, iv p1, iv (0 : Int32), .unset, .unset, .unset, .unset, .unset, .unset, .unset, .unset] [] _
      refine own_go (fun t₀ k₀ => XS.iconst X0.here hx rfl (Jvm.hb hby at_18) k₀) ?_
      show Gm p e below s₁ m 19 #[iv p0, iv p1, iv (0 : Int32), .unset, .unset, .unset, .unset, .unset, .unset, .unset, .unset] [(.int (1 : Int32))] _
      refine own_go (fun t₀ k₀ => XS.goto X0.here hx rfl (pc0 := 19) (pc' := 23) rfl (Jvm.hb hby at_19) (by decide) (by decide) k₀) ?_
      show Gm p e below s₁ m 23 #[iv p0, iv p1, iv (0 : Int32), .unset, .unset, .unset, .unset, .unset, .unset, .unset, .unset] [(.int (1 : Int32))] _
      refine own_go (fun t₀ k₀ => XS.istoreN X0.here hx rfl (Jvm.hb hby at_23) rfl (l' := #[iv p0, iv p1, iv (0 : Int32), iv (1 : Int32), .unset, .unset, .unset, .unset, .unset, .unset, .unset]) rfl k₀) ?_
      show Gm p e below s₁ m 24 #[iv p0, iv p1, iv (0 : Int32), iv (1 : Int32), .unset, .unset, .unset, .unset, .unset, .unset, .unset] [] _
      refine own_go (fun t₀ k₀ => XS.iloadN X0.here hx rfl (Jvm.hb hby at_24) rfl k₀) ?_
      show Gm p e below s₁ m 25 #[iv p0, iv p1, iv (0 : Int32), iv (1 : Int32), .unset, .unset, .unset, .unset, .unset, .unset, .unset] [(.int p1)] _
      obtain ⟨_, _, ⟨T8, L8, k8, n8⟩, -, X8, ⟨Lc8, hQ8, l8, y8, z8⟩, st8⟩ := Jvm.LawKit.callS X0 hx (y := (⟨"com/example/outlay/outlay/nacha/ServiceClassHoldingPinLaw", "creditCode", "(I)Lcom/example/outlay/outlay/nacha/TransactionCode;"⟩ : MethodName)) hown (mvT hZ (hw _ (List.mem_of_getElem? (i := 0) rfl))) (mvT hZ (hw _ (List.mem_of_getElem? (i := 1) rfl))) (mvT hZ (hw _ (List.mem_of_getElem? (i := 2) rfl))) (mvT hZ (hw _ (List.mem_of_getElem? (i := 3) rfl))) (by decide) (backOf (W := 0) (rm1 l Z a0 hw [] p1 w0 w1 w2 w3 h0 n0 Z0 S_w0 S_w1 S_w2 S_w3) hZ (hw _ (List.mem_of_getElem? (i := 3) rfl)) (hw _ (List.mem_of_getElem? (i := 2) rfl)) (by decide) (by decide)) (g := (mkF m 25 #[iv p0, iv p1, iv (0 : Int32), iv (1 : Int32), .unset, .unset, .unset, .unset, .unset, .unset, .unset] [(.int p1)])) rfl (by rw [hml]; rfl) (argsL := [(.int p1)]) (rest := []) (lenOf own_pd5 rfl) rfl (by show 2 * 0 + _ ≤ _; exact Nat.le_of_eq rfl) (Jvm.hb hby at_25) (fun _ _ => ⟨rfl, e0, (by decide : 0 + 0 ≤ _), (by decide : 0 + 0 ≤ _)⟩)
      dsimp only [Pt.U, Pt.locs, Pt.cells, Pt.slots] at X8 l8 y8 z8 st8 hQ8
      subst l8 y8 z8
      obtain ⟨rfl, Nq8, eq8⟩ := hQ8
      have N8 := Fr.app N0 Nq8
      have e8 : T8.heap = h0 := eq8
      refine own_go st8 ?_
      show Gm p e below T8 m 28 #[iv p0, iv p1, iv (0 : Int32), iv (1 : Int32), .unset, .unset, .unset, .unset, .unset, .unset, .unset] [(.ref (fC p1 w0 w1 w2 w3))] _
      refine own_go (fun t₀ k₀ => XS.astore X8.here hx rfl (Jvm.hb hby at_28) rfl rfl (l' := #[iv p0, iv p1, iv (0 : Int32), iv (1 : Int32), rv (fC p1 w0 w1 w2 w3), .unset, .unset, .unset, .unset, .unset, .unset]) rfl k₀) ?_
      show Gm p e below T8 m 30 #[iv p0, iv p1, iv (0 : Int32), iv (1 : Int32), rv (fC p1 w0 w1 w2 w3), .unset, .unset, .unset, .unset, .unset, .unset] [] _
      refine own_go (fun t₀ k₀ => XS.iloadN X8.here hx rfl (Jvm.hb hby at_30) rfl k₀) ?_
      show Gm p e below T8 m 31 #[iv p0, iv p1, iv (0 : Int32), iv (1 : Int32), rv (fC p1 w0 w1 w2 w3), .unset, .unset, .unset, .unset, .unset, .unset] [(.int p1)] _
      refine own_go (fun t₀ k₀ => XS.iconst X8.here hx rfl (Jvm.hb hby at_31) k₀) ?_
      show Gm p e below T8 m 32 #[iv p0, iv p1, iv (0 : Int32), iv (1 : Int32), rv (fC p1 w0 w1 w2 w3), .unset, .unset, .unset, .unset, .unset, .unset] [(.int (2 : Int32)), (.int p1)] _
      refine own_go (fun t₀ k₀ => XS.ishr X8.here hx rfl (Jvm.hb hby at_32) rfl k₀) ?_
      show Gm p e below T8 m 33 #[iv p0, iv p1, iv (0 : Int32), iv (1 : Int32), rv (fC p1 w0 w1 w2 w3), .unset, .unset, .unset, .unset, .unset, .unset] [(.int (p1 >>> ((2 : Int32) &&& 31)))] _
      obtain ⟨_, _, ⟨T9, L9, k9, n9⟩, -, X9, ⟨Lc9, hQ9, l9, y9, z9⟩, st9⟩ := Jvm.LawKit.callS X8 hx (y := (⟨"com/example/outlay/outlay/nacha/ServiceClassHoldingPinLaw", "debitCode", "(I)Lcom/example/outlay/outlay/nacha/TransactionCode;"⟩ : MethodName)) hown (mvT hZ (hw _ (List.mem_of_getElem? (i := 7) rfl))) (mvT hZ (hw _ (List.mem_of_getElem? (i := 8) rfl))) (mvT hZ (hw _ (List.mem_of_getElem? (i := 2) rfl))) (mvT hZ (hw _ (List.mem_of_getElem? (i := 9) rfl))) (by decide) (backOf (W := 0) (rm2 l Z a0 hw [] (p1 >>> ((2 : Int32) &&& 31)) w4 w5 w6 w7 h0 n0 Z0 S_w4 S_w5 S_w6 S_w7) hZ (hw _ (List.mem_of_getElem? (i := 9) rfl)) (hw _ (List.mem_of_getElem? (i := 2) rfl)) (by decide) (by decide)) (g := (mkF m 33 #[iv p0, iv p1, iv (0 : Int32), iv (1 : Int32), rv (fC p1 w0 w1 w2 w3), .unset, .unset, .unset, .unset, .unset, .unset] [(.int (p1 >>> ((2 : Int32) &&& 31)))])) rfl (by rw [hml]; rfl) (argsL := [(.int (p1 >>> ((2 : Int32) &&& 31)))]) (rest := []) (lenOf own_pd5 rfl) rfl (by show 2 * 0 + _ ≤ _; exact Nat.le_of_eq rfl) (Jvm.hb hby at_33) (fun _ _ => ⟨rfl, e8, (by decide : 0 + 0 ≤ _), (by decide : 0 + 0 ≤ _)⟩)
      dsimp only [Pt.U, Pt.locs, Pt.cells, Pt.slots] at X9 l9 y9 z9 st9 hQ9
      subst l9 y9 z9
      obtain ⟨rfl, Nq9, eq9⟩ := hQ9
      have N9 := Fr.app N8 Nq9
      have e9 : T9.heap = h0 := eq9
      refine own_go st9 ?_
      show Gm p e below T9 m 36 #[iv p0, iv p1, iv (0 : Int32), iv (1 : Int32), rv (fC p1 w0 w1 w2 w3), .unset, .unset, .unset, .unset, .unset, .unset] [(.ref (fB (p1 >>> ((2 : Int32) &&& 31)) w4 w5 w6 w7))] _
      refine own_go (fun t₀ k₀ => XS.astore X9.here hx rfl (Jvm.hb hby at_36) rfl rfl (l' := #[iv p0, iv p1, iv (0 : Int32), iv (1 : Int32), rv (fC p1 w0 w1 w2 w3), rv (fB (p1 >>> ((2 : Int32) &&& 31)) w4 w5 w6 w7), .unset, .unset, .unset, .unset, .unset]) rfl k₀) ?_
      show Gm p e below T9 m 38 #[iv p0, iv p1, iv (0 : Int32), iv (1 : Int32), rv (fC p1 w0 w1 w2 w3), rv (fB (p1 >>> ((2 : Int32) &&& 31)) w4 w5 w6 w7), .unset, .unset, .unset, .unset, .unset] [] _
      refine own_go (fun t₀ k₀ => XS.iloadN X9.here hx rfl (Jvm.hb hby at_38) rfl k₀) ?_
      show Gm p e below T9 m 39 #[iv p0, iv p1, iv (0 : Int32), iv (1 : Int32), rv (fC p1 w0 w1 w2 w3), rv (fB (p1 >>> ((2 : Int32) &&& 31)) w4 w5 w6 w7), .unset, .unset, .unset, .unset, .unset] [(.int (0 : Int32))] _
      refine own_go (fun t₀ k₀ => XS.iloadN X9.here hx rfl (Jvm.hb hby at_39) rfl k₀) ?_
      show Gm p e below T9 m 40 #[iv p0, iv p1, iv (0 : Int32), iv (1 : Int32), rv (fC p1 w0 w1 w2 w3), rv (fB (p1 >>> ((2 : Int32) &&& 31)) w4 w5 w6 w7), .unset, .unset, .unset, .unset, .unset] [(.int (1 : Int32)), (.int (0 : Int32))] _
      obtain ⟨_, _, ⟨T10, L10, k10, n10⟩, -, X10, ⟨Lc10, hQ10, l10, y10, z10⟩, st10⟩ := Jvm.LawKit.callS X9 hx (y := (⟨"com/example/outlay/outlay/nacha/ServiceClass", "holding", "(ZZ)Lcom/example/outlay/outlay/nacha/ServiceClass;"⟩ : MethodName)) hown (mvT hZ (hw _ (List.mem_of_getElem? (i := 12) rfl))) (mvT hZ (hw _ (List.mem_of_getElem? (i := 13) rfl))) (mvT hZ (hw _ (List.mem_of_getElem? (i := 14) rfl))) (mvT hZ (hw _ (List.mem_of_getElem? (i := 15) rfl))) (by decide) (backOf (W := 0) (rm3 l Z a0 hw [] (0 : Int32) (1 : Int32) wM wC wD h0 n0 Z0 S_wM S_wC S_wD) hZ (hw _ (List.mem_of_getElem? (i := 15) rfl)) (hw _ (List.mem_of_getElem? (i := 14) rfl)) (by decide) (by decide)) (g := (mkF m 40 #[iv p0, iv p1, iv (0 : Int32), iv (1 : Int32), rv (fC p1 w0 w1 w2 w3), rv (fB (p1 >>> ((2 : Int32) &&& 31)) w4 w5 w6 w7), .unset, .unset, .unset, .unset, .unset] [(.int (1 : Int32)), (.int (0 : Int32))])) rfl (by rw [hml]; rfl) (argsL := [(.int (0 : Int32)), (.int (1 : Int32))]) (rest := []) (lenOf own_pd6 rfl) rfl (by show 2 * 0 + _ ≤ _; exact Nat.le_of_eq rfl) (Jvm.hb hby at_40) (fun _ _ => ⟨rfl, e9, (by decide : 0 + 0 ≤ _), (by decide : 0 + 0 ≤ _)⟩)
      dsimp only [Pt.U, Pt.locs, Pt.cells, Pt.slots] at X10 l10 y10 z10 st10 hQ10
      subst l10 y10 z10
      obtain ⟨rfl, Nq10, eq10⟩ := hQ10
      have N10 := Fr.app N9 Nq10
      have e10 : T10.heap = h0 := eq10
      refine own_go st10 ?_
      show Gm p e below T10 m 43 #[iv p0, iv p1, iv (0 : Int32), iv (1 : Int32), rv (fC p1 w0 w1 w2 w3), rv (fB (p1 >>> ((2 : Int32) &&& 31)) w4 w5 w6 w7), .unset, .unset, .unset, .unset, .unset] [(.ref wD)] _
      refine own_go (fun t₀ k₀ => XS.astore X10.here hx rfl (Jvm.hb hby at_43) rfl rfl (l' := #[iv p0, iv p1, iv (0 : Int32), iv (1 : Int32), rv (fC p1 w0 w1 w2 w3), rv (fB (p1 >>> ((2 : Int32) &&& 31)) w4 w5 w6 w7), rv wD, .unset, .unset, .unset, .unset]) rfl k₀) ?_
      show Gm p e below T10 m 45 #[iv p0, iv p1, iv (0 : Int32), iv (1 : Int32), rv (fC p1 w0 w1 w2 w3), rv (fB (p1 >>> ((2 : Int32) &&& 31)) w4 w5 w6 w7), rv wD, .unset, .unset, .unset, .unset] [] _
      refine own_go (fun t₀ k₀ => XS.aload X10.here hx rfl (Jvm.hb hby at_45) rfl rfl k₀) ?_
      show Gm p e below T10 m 47 #[iv p0, iv p1, iv (0 : Int32), iv (1 : Int32), rv (fC p1 w0 w1 w2 w3), rv (fB (p1 >>> ((2 : Int32) &&& 31)) w4 w5 w6 w7), rv wD, .unset, .unset, .unset, .unset] [(.ref wD)] _
      refine own_go (fun t₀ k₀ => XS.ifnonnullYes X10.here hx rfl (pc0 := 47) (pc' := 52) rfl (Jvm.hb hby at_47) rfl (by decide) (by decide) k₀) ?_
      show Gm p e below T10 m 52 #[iv p0, iv p1, iv (0 : Int32), iv (1 : Int32), rv (fC p1 w0 w1 w2 w3), rv (fB (p1 >>> ((2 : Int32) &&& 31)) w4 w5 w6 w7), rv wD, .unset, .unset, .unset, .unset] [] _
      refine own_go (fun t₀ k₀ => XS.aload X10.here hx rfl (Jvm.hb hby at_52) rfl rfl k₀) ?_
      show Gm p e below T10 m 54 #[iv p0, iv p1, iv (0 : Int32), iv (1 : Int32), rv (fC p1 w0 w1 w2 w3), rv (fB (p1 >>> ((2 : Int32) &&& 31)) w4 w5 w6 w7), rv wD, .unset, .unset, .unset, .unset] [(.ref wD)] _
      refine own_go (fun t₀ k₀ => XS.aload X10.here hx rfl (Jvm.hb hby at_54) rfl rfl k₀) ?_
      show Gm p e below T10 m 56 #[iv p0, iv p1, iv (0 : Int32), iv (1 : Int32), rv (fC p1 w0 w1 w2 w3), rv (fB (p1 >>> ((2 : Int32) &&& 31)) w4 w5 w6 w7), rv wD, .unset, .unset, .unset, .unset] [(.ref (fC p1 w0 w1 w2 w3)), (.ref wD)] _
      obtain ⟨cq11, kq11, q11a, q11b, q11c⟩ := isOf hZ e10 E_wD
      obtain ⟨_, _, ⟨T11, L11, k11, n11⟩, -, X11, ⟨Lc11, hQ11, l11, y11, z11⟩, st11⟩ := X10.virtualBack hx (y := (⟨"com/example/outlay/outlay/nacha/ServiceClass", "allows", "(Lcom/example/outlay/outlay/nacha/TransactionCode;)Z"⟩ : MethodName)) (z := (⟨"com/example/outlay/outlay/nacha/ServiceClass", "allows", "(Lcom/example/outlay/outlay/nacha/TransactionCode;)Z"⟩ : MethodName)) hown (mvT hZ (hw _ (List.mem_of_getElem? (i := 18) rfl))) (mvT hZ (hw _ (List.mem_of_getElem? (i := 19) rfl))) (notFace_of_selects (args := #[]) (mvT hZ (hw _ (List.mem_of_getElem? (i := 21) rfl)))) (mvT hZ (hw _ (List.mem_of_getElem? (i := 21) rfl))) (mvT hZ (hw _ (List.mem_of_getElem? (i := 20) rfl))) (by decide) (backOf (W := 0) (rm4 l Z a0 hw [] wD (fC p1 w0 w1 w2 w3) (bC p1) wM wD cs w h0 n0 Z0 (own_tcC p1 Hw0 Hw1 Hw2 Hw3) S_wM S_wD S_c hcs S_f hv_w) hZ (hw _ (List.mem_of_getElem? (i := 22) rfl)) (hw _ (List.mem_of_getElem? (i := 14) rfl)) (by decide) (by decide)) q11a q11c (g := (mkF m 56 #[iv p0, iv p1, iv (0 : Int32), iv (1 : Int32), rv (fC p1 w0 w1 w2 w3), rv (fB (p1 >>> ((2 : Int32) &&& 31)) w4 w5 w6 w7), rv wD, .unset, .unset, .unset, .unset] [(.ref (fC p1 w0 w1 w2 w3)), (.ref wD)])) rfl (by rw [hml]; rfl) (Steps.refl _) (argsL := [(.ref (fC p1 w0 w1 w2 w3))]) (rest := []) (lenOf own_pd7 rfl) rfl (by show 2 * 0 + _ ≤ _; exact Nat.le_of_eq rfl) (Jvm.hb hby at_56) (fun _ _ => ⟨rfl, e10, (by decide : 0 + 0 ≤ _), (by decide : 0 + 0 ≤ _)⟩)
      dsimp only [Pt.U, Pt.locs, Pt.cells, Pt.slots] at X11 l11 y11 z11 st11 hQ11
      subst l11 y11 z11
      obtain ⟨rfl, Nq11, eq11⟩ := hQ11
      have N11 := Fr.app N10 Nq11
      have e11 : T11.heap = h0 := eq11
      refine own_go (fun t k => st11.trans k) ?_
      show Gm p e below T11 m 59 #[iv p0, iv p1, iv (0 : Int32), iv (1 : Int32), rv (fC p1 w0 w1 w2 w3), rv (fB (p1 >>> ((2 : Int32) &&& 31)) w4 w5 w6 w7), rv wD, .unset, .unset, .unset, .unset] [(.int (fA wD (bC p1) wM wD))] _
      refine own_go (fun t₀ k₀ => XS.istore X11.here hx rfl (Jvm.hb hby at_59) rfl (l' := #[iv p0, iv p1, iv (0 : Int32), iv (1 : Int32), rv (fC p1 w0 w1 w2 w3), rv (fB (p1 >>> ((2 : Int32) &&& 31)) w4 w5 w6 w7), rv wD, iv (fA wD (bC p1) wM wD), .unset, .unset, .unset]) rfl k₀) ?_
      show Gm p e below T11 m 61 #[iv p0, iv p1, iv (0 : Int32), iv (1 : Int32), rv (fC p1 w0 w1 w2 w3), rv (fB (p1 >>> ((2 : Int32) &&& 31)) w4 w5 w6 w7), rv wD, iv (fA wD (bC p1) wM wD), .unset, .unset, .unset] [] _
      refine own_go (fun t₀ k₀ => XS.aload X11.here hx rfl (Jvm.hb hby at_61) rfl rfl k₀) ?_
      show Gm p e below T11 m 63 #[iv p0, iv p1, iv (0 : Int32), iv (1 : Int32), rv (fC p1 w0 w1 w2 w3), rv (fB (p1 >>> ((2 : Int32) &&& 31)) w4 w5 w6 w7), rv wD, iv (fA wD (bC p1) wM wD), .unset, .unset, .unset] [(.ref wD)] _
      refine own_go (fun t₀ k₀ => XS.aload X11.here hx rfl (Jvm.hb hby at_63) rfl rfl k₀) ?_
      show Gm p e below T11 m 65 #[iv p0, iv p1, iv (0 : Int32), iv (1 : Int32), rv (fC p1 w0 w1 w2 w3), rv (fB (p1 >>> ((2 : Int32) &&& 31)) w4 w5 w6 w7), rv wD, iv (fA wD (bC p1) wM wD), .unset, .unset, .unset] [(.ref (fB (p1 >>> ((2 : Int32) &&& 31)) w4 w5 w6 w7)), (.ref wD)] _
      obtain ⟨cq12, kq12, q12a, q12b, q12c⟩ := isOf hZ e11 E_wD
      obtain ⟨_, _, ⟨T12, L12, k12, n12⟩, -, X12, ⟨Lc12, hQ12, l12, y12, z12⟩, st12⟩ := X11.virtualBack hx (y := (⟨"com/example/outlay/outlay/nacha/ServiceClass", "allows", "(Lcom/example/outlay/outlay/nacha/TransactionCode;)Z"⟩ : MethodName)) (z := (⟨"com/example/outlay/outlay/nacha/ServiceClass", "allows", "(Lcom/example/outlay/outlay/nacha/TransactionCode;)Z"⟩ : MethodName)) hown (mvT hZ (hw _ (List.mem_of_getElem? (i := 18) rfl))) (mvT hZ (hw _ (List.mem_of_getElem? (i := 19) rfl))) (notFace_of_selects (args := #[]) (mvT hZ (hw _ (List.mem_of_getElem? (i := 21) rfl)))) (mvT hZ (hw _ (List.mem_of_getElem? (i := 21) rfl))) (mvT hZ (hw _ (List.mem_of_getElem? (i := 20) rfl))) (by decide) (backOf (W := 0) (rm4 l Z a0 hw [] wD (fB (p1 >>> ((2 : Int32) &&& 31)) w4 w5 w6 w7) (bD (p1 >>> ((2 : Int32) &&& 31))) wM wD cs w h0 n0 Z0 (own_tcD (p1 >>> ((2 : Int32) &&& 31)) Hw4 Hw5 Hw6 Hw7) S_wM S_wD S_c hcs S_f hv_w) hZ (hw _ (List.mem_of_getElem? (i := 22) rfl)) (hw _ (List.mem_of_getElem? (i := 14) rfl)) (by decide) (by decide)) q12a q12c (g := (mkF m 65 #[iv p0, iv p1, iv (0 : Int32), iv (1 : Int32), rv (fC p1 w0 w1 w2 w3), rv (fB (p1 >>> ((2 : Int32) &&& 31)) w4 w5 w6 w7), rv wD, iv (fA wD (bC p1) wM wD), .unset, .unset, .unset] [(.ref (fB (p1 >>> ((2 : Int32) &&& 31)) w4 w5 w6 w7)), (.ref wD)])) rfl (by rw [hml]; rfl) (Steps.refl _) (argsL := [(.ref (fB (p1 >>> ((2 : Int32) &&& 31)) w4 w5 w6 w7))]) (rest := []) (lenOf own_pd7 rfl) rfl (by show 2 * 0 + _ ≤ _; exact Nat.le_of_eq rfl) (Jvm.hb hby at_65) (fun _ _ => ⟨rfl, e11, (by decide : 0 + 0 ≤ _), (by decide : 0 + 0 ≤ _)⟩)
      dsimp only [Pt.U, Pt.locs, Pt.cells, Pt.slots] at X12 l12 y12 z12 st12 hQ12
      subst l12 y12 z12
      obtain ⟨rfl, Nq12, eq12⟩ := hQ12
      have N12 := Fr.app N11 Nq12
      have e12 : T12.heap = h0 := eq12
      refine own_go (fun t k => st12.trans k) ?_
      show Gm p e below T12 m 68 #[iv p0, iv p1, iv (0 : Int32), iv (1 : Int32), rv (fC p1 w0 w1 w2 w3), rv (fB (p1 >>> ((2 : Int32) &&& 31)) w4 w5 w6 w7), rv wD, iv (fA wD (bC p1) wM wD), .unset, .unset, .unset] [(.int (fA wD (bD (p1 >>> ((2 : Int32) &&& 31))) wM wD))] _
      refine own_go (fun t₀ k₀ => XS.istore X12.here hx rfl (Jvm.hb hby at_68) rfl (l' := #[iv p0, iv p1, iv (0 : Int32), iv (1 : Int32), rv (fC p1 w0 w1 w2 w3), rv (fB (p1 >>> ((2 : Int32) &&& 31)) w4 w5 w6 w7), rv wD, iv (fA wD (bC p1) wM wD), iv (fA wD (bD (p1 >>> ((2 : Int32) &&& 31))) wM wD), .unset, .unset]) rfl k₀) ?_
      show Gm p e below T12 m 70 #[iv p0, iv p1, iv (0 : Int32), iv (1 : Int32), rv (fC p1 w0 w1 w2 w3), rv (fB (p1 >>> ((2 : Int32) &&& 31)) w4 w5 w6 w7), rv wD, iv (fA wD (bC p1) wM wD), iv (fA wD (bD (p1 >>> ((2 : Int32) &&& 31))) wM wD), .unset, .unset] [] _
      refine own_go (fun t₀ k₀ => XS.iloadN X12.here hx rfl (Jvm.hb hby at_70) rfl k₀) ?_
      show Gm p e below T12 m 71 #[iv p0, iv p1, iv (0 : Int32), iv (1 : Int32), rv (fC p1 w0 w1 w2 w3), rv (fB (p1 >>> ((2 : Int32) &&& 31)) w4 w5 w6 w7), rv wD, iv (fA wD (bC p1) wM wD), iv (fA wD (bD (p1 >>> ((2 : Int32) &&& 31))) wM wD), .unset, .unset] [(.int (0 : Int32))] _
      refine own_go (fun t₀ k₀ => XS.ifNo X12.here hx rfl (Jvm.hb hby at_71) rfl (XT.i0_ne_f (by decide)) k₀) ?_
      show Gm p e below T12 m 74 #[iv p0, iv p1, iv (0 : Int32), iv (1 : Int32), rv (fC p1 w0 w1 w2 w3), rv (fB (p1 >>> ((2 : Int32) &&& 31)) w4 w5 w6 w7), rv wD, iv (fA wD (bC p1) wM wD), iv (fA wD (bD (p1 >>> ((2 : Int32) &&& 31))) wM wD), .unset, .unset] [] _
      refine own_go (fun t₀ k₀ => XS.iloadN X12.here hx rfl (Jvm.hb hby at_74) rfl k₀) ?_
      show Gm p e below T12 m 75 #[iv p0, iv p1, iv (0 : Int32), iv (1 : Int32), rv (fC p1 w0 w1 w2 w3), rv (fB (p1 >>> ((2 : Int32) &&& 31)) w4 w5 w6 w7), rv wD, iv (fA wD (bC p1) wM wD), iv (fA wD (bD (p1 >>> ((2 : Int32) &&& 31))) wM wD), .unset, .unset] [(.int (1 : Int32))] _
      refine own_go (fun t₀ k₀ => XS.ifYes X12.here hx rfl (pc0 := 75) (pc' := 82) rfl (Jvm.hb hby at_75) rfl (XT.i0_ne_t (by decide)) (by decide) (by decide) k₀) ?_
      show Gm p e below T12 m 82 #[iv p0, iv p1, iv (0 : Int32), iv (1 : Int32), rv (fC p1 w0 w1 w2 w3), rv (fB (p1 >>> ((2 : Int32) &&& 31)) w4 w5 w6 w7), rv wD, iv (fA wD (bC p1) wM wD), iv (fA wD (bD (p1 >>> ((2 : Int32) &&& 31))) wM wD), .unset, .unset] [] _
      refine own_go (fun t₀ k₀ => XS.iconst X12.here hx rfl (Jvm.hb hby at_82) k₀) ?_
      show Gm p e below T12 m 83 #[iv p0, iv p1, iv (0 : Int32), iv (1 : Int32), rv (fC p1 w0 w1 w2 w3), rv (fB (p1 >>> ((2 : Int32) &&& 31)) w4 w5 w6 w7), rv wD, iv (fA wD (bC p1) wM wD), iv (fA wD (bD (p1 >>> ((2 : Int32) &&& 31))) wM wD), .unset, .unset] [(.int (0 : Int32))] _
      refine own_go (fun t₀ k₀ => XS.istore X12.here hx rfl (Jvm.hb hby at_83) rfl (l' := #[iv p0, iv p1, iv (0 : Int32), iv (1 : Int32), rv (fC p1 w0 w1 w2 w3), rv (fB (p1 >>> ((2 : Int32) &&& 31)) w4 w5 w6 w7), rv wD, iv (fA wD (bC p1) wM wD), iv (fA wD (bD (p1 >>> ((2 : Int32) &&& 31))) wM wD), iv (0 : Int32), .unset]) rfl k₀) ?_
      show Gm p e below T12 m 85 #[iv p0, iv p1, iv (0 : Int32), iv (1 : Int32), rv (fC p1 w0 w1 w2 w3), rv (fB (p1 >>> ((2 : Int32) &&& 31)) w4 w5 w6 w7), rv wD, iv (fA wD (bC p1) wM wD), iv (fA wD (bD (p1 >>> ((2 : Int32) &&& 31))) wM wD), iv (0 : Int32), .unset] [] _
      refine own_go (fun t₀ k₀ => XS.iloadN X12.here hx rfl (Jvm.hb hby at_85) rfl k₀) ?_
      show Gm p e below T12 m 86 #[iv p0, iv p1, iv (0 : Int32), iv (1 : Int32), rv (fC p1 w0 w1 w2 w3), rv (fB (p1 >>> ((2 : Int32) &&& 31)) w4 w5 w6 w7), rv wD, iv (fA wD (bC p1) wM wD), iv (fA wD (bD (p1 >>> ((2 : Int32) &&& 31))) wM wD), iv (0 : Int32), .unset] [(.int (1 : Int32))] _
      refine own_go (fun t₀ k₀ => XS.istore X12.here hx rfl (Jvm.hb hby at_86) rfl (l' := #[iv p0, iv p1, iv (0 : Int32), iv (1 : Int32), rv (fC p1 w0 w1 w2 w3), rv (fB (p1 >>> ((2 : Int32) &&& 31)) w4 w5 w6 w7), rv wD, iv (fA wD (bC p1) wM wD), iv (fA wD (bD (p1 >>> ((2 : Int32) &&& 31))) wM wD), iv (0 : Int32), iv (1 : Int32)]) rfl k₀) ?_
      show Gm p e below T12 m 88 #[iv p0, iv p1, iv (0 : Int32), iv (1 : Int32), rv (fC p1 w0 w1 w2 w3), rv (fB (p1 >>> ((2 : Int32) &&& 31)) w4 w5 w6 w7), rv wD, iv (fA wD (bC p1) wM wD), iv (fA wD (bD (p1 >>> ((2 : Int32) &&& 31))) wM wD), iv (0 : Int32), iv (1 : Int32)] [] _
      refine own_go (fun t₀ k₀ => XS.iload X12.here hx rfl (Jvm.hb hby at_88) rfl k₀) ?_
      show Gm p e below T12 m 90 #[iv p0, iv p1, iv (0 : Int32), iv (1 : Int32), rv (fC p1 w0 w1 w2 w3), rv (fB (p1 >>> ((2 : Int32) &&& 31)) w4 w5 w6 w7), rv wD, iv (fA wD (bC p1) wM wD), iv (fA wD (bD (p1 >>> ((2 : Int32) &&& 31))) wM wD), iv (0 : Int32), iv (1 : Int32)] [(.int (fA wD (bC p1) wM wD))] _
      refine own_go (fun t₀ k₀ => XS.iload X12.here hx rfl (Jvm.hb hby at_90) rfl k₀) ?_
      show Gm p e below T12 m 92 #[iv p0, iv p1, iv (0 : Int32), iv (1 : Int32), rv (fC p1 w0 w1 w2 w3), rv (fB (p1 >>> ((2 : Int32) &&& 31)) w4 w5 w6 w7), rv wD, iv (fA wD (bC p1) wM wD), iv (fA wD (bD (p1 >>> ((2 : Int32) &&& 31))) wM wD), iv (0 : Int32), iv (1 : Int32)] [(.int (0 : Int32)), (.int (fA wD (bC p1) wM wD))] _
      refine own_go (fun t₀ k₀ => XS.icmpNo X12.here hx rfl (Jvm.hb hby at_92) rfl (XT.ii_ne_f (own_Dc _ _ _ n_DM (own_fC _))) k₀) ?_
      show Gm p e below T12 m 95 #[iv p0, iv p1, iv (0 : Int32), iv (1 : Int32), rv (fC p1 w0 w1 w2 w3), rv (fB (p1 >>> ((2 : Int32) &&& 31)) w4 w5 w6 w7), rv wD, iv (fA wD (bC p1) wM wD), iv (fA wD (bD (p1 >>> ((2 : Int32) &&& 31))) wM wD), iv (0 : Int32), iv (1 : Int32)] [] _
      refine own_go (fun t₀ k₀ => XS.iload X12.here hx rfl (Jvm.hb hby at_95) rfl k₀) ?_
      show Gm p e below T12 m 97 #[iv p0, iv p1, iv (0 : Int32), iv (1 : Int32), rv (fC p1 w0 w1 w2 w3), rv (fB (p1 >>> ((2 : Int32) &&& 31)) w4 w5 w6 w7), rv wD, iv (fA wD (bC p1) wM wD), iv (fA wD (bD (p1 >>> ((2 : Int32) &&& 31))) wM wD), iv (0 : Int32), iv (1 : Int32)] [(.int (fA wD (bD (p1 >>> ((2 : Int32) &&& 31))) wM wD))] _
      refine own_go (fun t₀ k₀ => XS.iload X12.here hx rfl (Jvm.hb hby at_97) rfl k₀) ?_
      show Gm p e below T12 m 99 #[iv p0, iv p1, iv (0 : Int32), iv (1 : Int32), rv (fC p1 w0 w1 w2 w3), rv (fB (p1 >>> ((2 : Int32) &&& 31)) w4 w5 w6 w7), rv wD, iv (fA wD (bC p1) wM wD), iv (fA wD (bD (p1 >>> ((2 : Int32) &&& 31))) wM wD), iv (0 : Int32), iv (1 : Int32)] [(.int (1 : Int32)), (.int (fA wD (bD (p1 >>> ((2 : Int32) &&& 31))) wM wD))] _
      refine own_go (fun t₀ k₀ => XS.icmpNo X12.here hx rfl (Jvm.hb hby at_99) rfl (XT.ii_ne_f (own_Dd _ _ _ (own_fD _))) k₀) ?_
      show Gm p e below T12 m 102 #[iv p0, iv p1, iv (0 : Int32), iv (1 : Int32), rv (fC p1 w0 w1 w2 w3), rv (fB (p1 >>> ((2 : Int32) &&& 31)) w4 w5 w6 w7), rv wD, iv (fA wD (bC p1) wM wD), iv (fA wD (bD (p1 >>> ((2 : Int32) &&& 31))) wM wD), iv (0 : Int32), iv (1 : Int32)] [] _
      refine own_go (fun t₀ k₀ => XS.iconst X12.here hx rfl (Jvm.hb hby at_102) k₀) ?_
      show Gm p e below T12 m 103 #[iv p0, iv p1, iv (0 : Int32), iv (1 : Int32), rv (fC p1 w0 w1 w2 w3), rv (fB (p1 >>> ((2 : Int32) &&& 31)) w4 w5 w6 w7), rv wD, iv (fA wD (bC p1) wM wD), iv (fA wD (bD (p1 >>> ((2 : Int32) &&& 31))) wM wD), iv (0 : Int32), iv (1 : Int32)] [(.int (1 : Int32))] _
      refine own_go (fun t₀ k₀ => XS.goto X12.here hx rfl (pc0 := 103) (pc' := 107) rfl (Jvm.hb hby at_103) (by decide) (by decide) k₀) ?_
      show Gm p e below T12 m 107 #[iv p0, iv p1, iv (0 : Int32), iv (1 : Int32), rv (fC p1 w0 w1 w2 w3), rv (fB (p1 >>> ((2 : Int32) &&& 31)) w4 w5 w6 w7), rv wD, iv (fA wD (bC p1) wM wD), iv (fA wD (bD (p1 >>> ((2 : Int32) &&& 31))) wM wD), iv (0 : Int32), iv (1 : Int32)] [(.int (1 : Int32))] _
      exact own_retI X12 hx hlk (t := .boolean) Bd.returns rfl (by simp) (Jvm.hb hby at_107) e12 ⟨rfl, N12⟩ (by decide) (by decide)
  · have hfork := trivial
    refine own_go (fun t₀ k₀ => XS.ifNo X0.here hx rfl (Jvm.hb hby at_3) rfl (XT.i0_eq_f c1) k₀) ?_
    show Gm p e below s₁ m 6 #[iv p0, iv p1, .unset, .unset, .unset, .unset, .unset, .unset, .unset, .unset, .unset] [] _
    refine own_go (fun t₀ k₀ => XS.iconst X0.here hx rfl (Jvm.hb hby at_6) k₀) ?_
    show Gm p e below s₁ m 7 #[iv p0, iv p1, .unset, .unset, .unset, .unset, .unset, .unset, .unset, .unset, .unset] [(.int (1 : Int32))] _
    refine own_go (fun t₀ k₀ => XS.goto X0.here hx rfl (pc0 := 7) (pc' := 11) rfl (Jvm.hb hby at_7) (by decide) (by decide) k₀) ?_
    show Gm p e below s₁ m 11 #[iv p0, iv p1, .unset, .unset, .unset, .unset, .unset, .unset, .unset, .unset, .unset] [(.int (1 : Int32))] _
    refine own_go (fun t₀ k₀ => XS.istoreN X0.here hx rfl (Jvm.hb hby at_11) rfl (l' := #[iv p0, iv p1, iv (1 : Int32), .unset, .unset, .unset, .unset, .unset, .unset, .unset, .unset]) rfl k₀) ?_
    show Gm p e below s₁ m 12 #[iv p0, iv p1, iv (1 : Int32), .unset, .unset, .unset, .unset, .unset, .unset, .unset, .unset] [] _
    refine own_go (fun t₀ k₀ => XS.iloadN X0.here hx rfl (Jvm.hb hby at_12) rfl k₀) ?_
    show Gm p e below s₁ m 13 #[iv p0, iv p1, iv (1 : Int32), .unset, .unset, .unset, .unset, .unset, .unset, .unset, .unset] [(.int p0)] _
    refine own_go (fun t₀ k₀ => XS.iconst X0.here hx rfl (Jvm.hb hby at_13) k₀) ?_
    show Gm p e below s₁ m 14 #[iv p0, iv p1, iv (1 : Int32), .unset, .unset, .unset, .unset, .unset, .unset, .unset, .unset] [(.int (2 : Int32)), (.int p0)] _
    refine own_go (fun t₀ k₀ => XS.iand X0.here hx rfl (Jvm.hb hby at_14) rfl k₀) ?_
    show Gm p e below s₁ m 15 #[iv p0, iv p1, iv (1 : Int32), .unset, .unset, .unset, .unset, .unset, .unset, .unset, .unset] [(.int (p0 &&& (2 : Int32)))] _
    by_cases c13 : (p0 &&& (2 : Int32)) = (0 : Int32)
    · have hfork := trivial
      refine own_go (fun t₀ k₀ => XS.ifYes X0.here hx rfl (pc0 := 15) (pc' := 22) rfl (Jvm.hb hby at_15) rfl (XT.i0_eq_t c13) (by decide) (by decide) k₀) ?_
      show Gm p e below s₁ m 22 #[iv p0, iv p1, iv (1 : Int32), .unset, .unset, .unset, .unset, .unset, .unset, .unset, .unset] [] _
      refine own_go (fun t₀ k₀ => XS.iconst X0.here hx rfl (Jvm.hb hby at_22) k₀) ?_
      show Gm p e below s₁ m 23 #[iv p0, iv p1, iv (1 : Int32), .unset, .unset, .unset, .unset, .unset, .unset, .unset, .unset] [(.int (0 : Int32))] _
      refine own_go (fun t₀ k₀ => XS.istoreN X0.here hx rfl (Jvm.hb hby at_23) rfl (l' := #[iv p0, iv p1, iv (1 : Int32), iv (0 : Int32), .unset, .unset, .unset, .unset, .unset, .unset, .unset]) rfl k₀) ?_
      show Gm p e below s₁ m 24 #[iv p0, iv p1, iv (1 : Int32), iv (0 : Int32), .unset, .unset, .unset, .unset, .unset, .unset, .unset] [] _
      refine own_go (fun t₀ k₀ => XS.iloadN X0.here hx rfl (Jvm.hb hby at_24) rfl k₀) ?_
      show Gm p e below s₁ m 25 #[iv p0, iv p1, iv (1 : Int32), iv (0 : Int32), .unset, .unset, .unset, .unset, .unset, .unset, .unset] [(.int p1)] _
      obtain ⟨_, _, ⟨T14, L14, k14, n14⟩, -, X14, ⟨Lc14, hQ14, l14, y14, z14⟩, st14⟩ := Jvm.LawKit.callS X0 hx (y := (⟨"com/example/outlay/outlay/nacha/ServiceClassHoldingPinLaw", "creditCode", "(I)Lcom/example/outlay/outlay/nacha/TransactionCode;"⟩ : MethodName)) hown (mvT hZ (hw _ (List.mem_of_getElem? (i := 0) rfl))) (mvT hZ (hw _ (List.mem_of_getElem? (i := 1) rfl))) (mvT hZ (hw _ (List.mem_of_getElem? (i := 2) rfl))) (mvT hZ (hw _ (List.mem_of_getElem? (i := 3) rfl))) (by decide) (backOf (W := 0) (rm1 l Z a0 hw [] p1 w0 w1 w2 w3 h0 n0 Z0 S_w0 S_w1 S_w2 S_w3) hZ (hw _ (List.mem_of_getElem? (i := 3) rfl)) (hw _ (List.mem_of_getElem? (i := 2) rfl)) (by decide) (by decide)) (g := (mkF m 25 #[iv p0, iv p1, iv (1 : Int32), iv (0 : Int32), .unset, .unset, .unset, .unset, .unset, .unset, .unset] [(.int p1)])) rfl (by rw [hml]; rfl) (argsL := [(.int p1)]) (rest := []) (lenOf own_pd5 rfl) rfl (by show 2 * 0 + _ ≤ _; exact Nat.le_of_eq rfl) (Jvm.hb hby at_25) (fun _ _ => ⟨rfl, e0, (by decide : 0 + 0 ≤ _), (by decide : 0 + 0 ≤ _)⟩)
      dsimp only [Pt.U, Pt.locs, Pt.cells, Pt.slots] at X14 l14 y14 z14 st14 hQ14
      subst l14 y14 z14
      obtain ⟨rfl, Nq14, eq14⟩ := hQ14
      have N14 := Fr.app N0 Nq14
      have e14 : T14.heap = h0 := eq14
      refine own_go st14 ?_
      show Gm p e below T14 m 28 #[iv p0, iv p1, iv (1 : Int32), iv (0 : Int32), .unset, .unset, .unset, .unset, .unset, .unset, .unset] [(.ref (fC p1 w0 w1 w2 w3))] _
      refine own_go (fun t₀ k₀ => XS.astore X14.here hx rfl (Jvm.hb hby at_28) rfl rfl (l' := #[iv p0, iv p1, iv (1 : Int32), iv (0 : Int32), rv (fC p1 w0 w1 w2 w3), .unset, .unset, .unset, .unset, .unset, .unset]) rfl k₀) ?_
      show Gm p e below T14 m 30 #[iv p0, iv p1, iv (1 : Int32), iv (0 : Int32), rv (fC p1 w0 w1 w2 w3), .unset, .unset, .unset, .unset, .unset, .unset] [] _
      refine own_go (fun t₀ k₀ => XS.iloadN X14.here hx rfl (Jvm.hb hby at_30) rfl k₀) ?_
      show Gm p e below T14 m 31 #[iv p0, iv p1, iv (1 : Int32), iv (0 : Int32), rv (fC p1 w0 w1 w2 w3), .unset, .unset, .unset, .unset, .unset, .unset] [(.int p1)] _
      refine own_go (fun t₀ k₀ => XS.iconst X14.here hx rfl (Jvm.hb hby at_31) k₀) ?_
      show Gm p e below T14 m 32 #[iv p0, iv p1, iv (1 : Int32), iv (0 : Int32), rv (fC p1 w0 w1 w2 w3), .unset, .unset, .unset, .unset, .unset, .unset] [(.int (2 : Int32)), (.int p1)] _
      refine own_go (fun t₀ k₀ => XS.ishr X14.here hx rfl (Jvm.hb hby at_32) rfl k₀) ?_
      show Gm p e below T14 m 33 #[iv p0, iv p1, iv (1 : Int32), iv (0 : Int32), rv (fC p1 w0 w1 w2 w3), .unset, .unset, .unset, .unset, .unset, .unset] [(.int (p1 >>> ((2 : Int32) &&& 31)))] _
      obtain ⟨_, _, ⟨T15, L15, k15, n15⟩, -, X15, ⟨Lc15, hQ15, l15, y15, z15⟩, st15⟩ := Jvm.LawKit.callS X14 hx (y := (⟨"com/example/outlay/outlay/nacha/ServiceClassHoldingPinLaw", "debitCode", "(I)Lcom/example/outlay/outlay/nacha/TransactionCode;"⟩ : MethodName)) hown (mvT hZ (hw _ (List.mem_of_getElem? (i := 7) rfl))) (mvT hZ (hw _ (List.mem_of_getElem? (i := 8) rfl))) (mvT hZ (hw _ (List.mem_of_getElem? (i := 2) rfl))) (mvT hZ (hw _ (List.mem_of_getElem? (i := 9) rfl))) (by decide) (backOf (W := 0) (rm2 l Z a0 hw [] (p1 >>> ((2 : Int32) &&& 31)) w4 w5 w6 w7 h0 n0 Z0 S_w4 S_w5 S_w6 S_w7) hZ (hw _ (List.mem_of_getElem? (i := 9) rfl)) (hw _ (List.mem_of_getElem? (i := 2) rfl)) (by decide) (by decide)) (g := (mkF m 33 #[iv p0, iv p1, iv (1 : Int32), iv (0 : Int32), rv (fC p1 w0 w1 w2 w3), .unset, .unset, .unset, .unset, .unset, .unset] [(.int (p1 >>> ((2 : Int32) &&& 31)))])) rfl (by rw [hml]; rfl) (argsL := [(.int (p1 >>> ((2 : Int32) &&& 31)))]) (rest := []) (lenOf own_pd5 rfl) rfl (by show 2 * 0 + _ ≤ _; exact Nat.le_of_eq rfl) (Jvm.hb hby at_33) (fun _ _ => ⟨rfl, e14, (by decide : 0 + 0 ≤ _), (by decide : 0 + 0 ≤ _)⟩)
      dsimp only [Pt.U, Pt.locs, Pt.cells, Pt.slots] at X15 l15 y15 z15 st15 hQ15
      subst l15 y15 z15
      obtain ⟨rfl, Nq15, eq15⟩ := hQ15
      have N15 := Fr.app N14 Nq15
      have e15 : T15.heap = h0 := eq15
      refine own_go st15 ?_
      show Gm p e below T15 m 36 #[iv p0, iv p1, iv (1 : Int32), iv (0 : Int32), rv (fC p1 w0 w1 w2 w3), .unset, .unset, .unset, .unset, .unset, .unset] [(.ref (fB (p1 >>> ((2 : Int32) &&& 31)) w4 w5 w6 w7))] _
      refine own_go (fun t₀ k₀ => XS.astore X15.here hx rfl (Jvm.hb hby at_36) rfl rfl (l' := #[iv p0, iv p1, iv (1 : Int32), iv (0 : Int32), rv (fC p1 w0 w1 w2 w3), rv (fB (p1 >>> ((2 : Int32) &&& 31)) w4 w5 w6 w7), .unset, .unset, .unset, .unset, .unset]) rfl k₀) ?_
      show Gm p e below T15 m 38 #[iv p0, iv p1, iv (1 : Int32), iv (0 : Int32), rv (fC p1 w0 w1 w2 w3), rv (fB (p1 >>> ((2 : Int32) &&& 31)) w4 w5 w6 w7), .unset, .unset, .unset, .unset, .unset] [] _
      refine own_go (fun t₀ k₀ => XS.iloadN X15.here hx rfl (Jvm.hb hby at_38) rfl k₀) ?_
      show Gm p e below T15 m 39 #[iv p0, iv p1, iv (1 : Int32), iv (0 : Int32), rv (fC p1 w0 w1 w2 w3), rv (fB (p1 >>> ((2 : Int32) &&& 31)) w4 w5 w6 w7), .unset, .unset, .unset, .unset, .unset] [(.int (1 : Int32))] _
      refine own_go (fun t₀ k₀ => XS.iloadN X15.here hx rfl (Jvm.hb hby at_39) rfl k₀) ?_
      show Gm p e below T15 m 40 #[iv p0, iv p1, iv (1 : Int32), iv (0 : Int32), rv (fC p1 w0 w1 w2 w3), rv (fB (p1 >>> ((2 : Int32) &&& 31)) w4 w5 w6 w7), .unset, .unset, .unset, .unset, .unset] [(.int (0 : Int32)), (.int (1 : Int32))] _
      obtain ⟨_, _, ⟨T16, L16, k16, n16⟩, -, X16, ⟨Lc16, hQ16, l16, y16, z16⟩, st16⟩ := Jvm.LawKit.callS X15 hx (y := (⟨"com/example/outlay/outlay/nacha/ServiceClass", "holding", "(ZZ)Lcom/example/outlay/outlay/nacha/ServiceClass;"⟩ : MethodName)) hown (mvT hZ (hw _ (List.mem_of_getElem? (i := 12) rfl))) (mvT hZ (hw _ (List.mem_of_getElem? (i := 13) rfl))) (mvT hZ (hw _ (List.mem_of_getElem? (i := 14) rfl))) (mvT hZ (hw _ (List.mem_of_getElem? (i := 15) rfl))) (by decide) (backOf (W := 0) (rm3 l Z a0 hw [] (1 : Int32) (0 : Int32) wM wC wD h0 n0 Z0 S_wM S_wC S_wD) hZ (hw _ (List.mem_of_getElem? (i := 15) rfl)) (hw _ (List.mem_of_getElem? (i := 14) rfl)) (by decide) (by decide)) (g := (mkF m 40 #[iv p0, iv p1, iv (1 : Int32), iv (0 : Int32), rv (fC p1 w0 w1 w2 w3), rv (fB (p1 >>> ((2 : Int32) &&& 31)) w4 w5 w6 w7), .unset, .unset, .unset, .unset, .unset] [(.int (0 : Int32)), (.int (1 : Int32))])) rfl (by rw [hml]; rfl) (argsL := [(.int (1 : Int32)), (.int (0 : Int32))]) (rest := []) (lenOf own_pd6 rfl) rfl (by show 2 * 0 + _ ≤ _; exact Nat.le_of_eq rfl) (Jvm.hb hby at_40) (fun _ _ => ⟨rfl, e15, (by decide : 0 + 0 ≤ _), (by decide : 0 + 0 ≤ _)⟩)
      dsimp only [Pt.U, Pt.locs, Pt.cells, Pt.slots] at X16 l16 y16 z16 st16 hQ16
      subst l16 y16 z16
      obtain ⟨rfl, Nq16, eq16⟩ := hQ16
      have N16 := Fr.app N15 Nq16
      have e16 : T16.heap = h0 := eq16
      refine own_go st16 ?_
      show Gm p e below T16 m 43 #[iv p0, iv p1, iv (1 : Int32), iv (0 : Int32), rv (fC p1 w0 w1 w2 w3), rv (fB (p1 >>> ((2 : Int32) &&& 31)) w4 w5 w6 w7), .unset, .unset, .unset, .unset, .unset] [(.ref wC)] _
      refine own_go (fun t₀ k₀ => XS.astore X16.here hx rfl (Jvm.hb hby at_43) rfl rfl (l' := #[iv p0, iv p1, iv (1 : Int32), iv (0 : Int32), rv (fC p1 w0 w1 w2 w3), rv (fB (p1 >>> ((2 : Int32) &&& 31)) w4 w5 w6 w7), rv wC, .unset, .unset, .unset, .unset]) rfl k₀) ?_
      show Gm p e below T16 m 45 #[iv p0, iv p1, iv (1 : Int32), iv (0 : Int32), rv (fC p1 w0 w1 w2 w3), rv (fB (p1 >>> ((2 : Int32) &&& 31)) w4 w5 w6 w7), rv wC, .unset, .unset, .unset, .unset] [] _
      refine own_go (fun t₀ k₀ => XS.aload X16.here hx rfl (Jvm.hb hby at_45) rfl rfl k₀) ?_
      show Gm p e below T16 m 47 #[iv p0, iv p1, iv (1 : Int32), iv (0 : Int32), rv (fC p1 w0 w1 w2 w3), rv (fB (p1 >>> ((2 : Int32) &&& 31)) w4 w5 w6 w7), rv wC, .unset, .unset, .unset, .unset] [(.ref wC)] _
      refine own_go (fun t₀ k₀ => XS.ifnonnullYes X16.here hx rfl (pc0 := 47) (pc' := 52) rfl (Jvm.hb hby at_47) rfl (by decide) (by decide) k₀) ?_
      show Gm p e below T16 m 52 #[iv p0, iv p1, iv (1 : Int32), iv (0 : Int32), rv (fC p1 w0 w1 w2 w3), rv (fB (p1 >>> ((2 : Int32) &&& 31)) w4 w5 w6 w7), rv wC, .unset, .unset, .unset, .unset] [] _
      refine own_go (fun t₀ k₀ => XS.aload X16.here hx rfl (Jvm.hb hby at_52) rfl rfl k₀) ?_
      show Gm p e below T16 m 54 #[iv p0, iv p1, iv (1 : Int32), iv (0 : Int32), rv (fC p1 w0 w1 w2 w3), rv (fB (p1 >>> ((2 : Int32) &&& 31)) w4 w5 w6 w7), rv wC, .unset, .unset, .unset, .unset] [(.ref wC)] _
      refine own_go (fun t₀ k₀ => XS.aload X16.here hx rfl (Jvm.hb hby at_54) rfl rfl k₀) ?_
      show Gm p e below T16 m 56 #[iv p0, iv p1, iv (1 : Int32), iv (0 : Int32), rv (fC p1 w0 w1 w2 w3), rv (fB (p1 >>> ((2 : Int32) &&& 31)) w4 w5 w6 w7), rv wC, .unset, .unset, .unset, .unset] [(.ref (fC p1 w0 w1 w2 w3)), (.ref wC)] _
      obtain ⟨cq17, kq17, q17a, q17b, q17c⟩ := isOf hZ e16 E_wC
      obtain ⟨_, _, ⟨T17, L17, k17, n17⟩, -, X17, ⟨Lc17, hQ17, l17, y17, z17⟩, st17⟩ := X16.virtualBack hx (y := (⟨"com/example/outlay/outlay/nacha/ServiceClass", "allows", "(Lcom/example/outlay/outlay/nacha/TransactionCode;)Z"⟩ : MethodName)) (z := (⟨"com/example/outlay/outlay/nacha/ServiceClass", "allows", "(Lcom/example/outlay/outlay/nacha/TransactionCode;)Z"⟩ : MethodName)) hown (mvT hZ (hw _ (List.mem_of_getElem? (i := 18) rfl))) (mvT hZ (hw _ (List.mem_of_getElem? (i := 19) rfl))) (notFace_of_selects (args := #[]) (mvT hZ (hw _ (List.mem_of_getElem? (i := 21) rfl)))) (mvT hZ (hw _ (List.mem_of_getElem? (i := 21) rfl))) (mvT hZ (hw _ (List.mem_of_getElem? (i := 20) rfl))) (by decide) (backOf (W := 0) (rm4 l Z a0 hw [] wC (fC p1 w0 w1 w2 w3) (bC p1) wM wD cs w h0 n0 Z0 (own_tcC p1 Hw0 Hw1 Hw2 Hw3) S_wM S_wD S_c hcs S_f hv_w) hZ (hw _ (List.mem_of_getElem? (i := 22) rfl)) (hw _ (List.mem_of_getElem? (i := 14) rfl)) (by decide) (by decide)) q17a q17c (g := (mkF m 56 #[iv p0, iv p1, iv (1 : Int32), iv (0 : Int32), rv (fC p1 w0 w1 w2 w3), rv (fB (p1 >>> ((2 : Int32) &&& 31)) w4 w5 w6 w7), rv wC, .unset, .unset, .unset, .unset] [(.ref (fC p1 w0 w1 w2 w3)), (.ref wC)])) rfl (by rw [hml]; rfl) (Steps.refl _) (argsL := [(.ref (fC p1 w0 w1 w2 w3))]) (rest := []) (lenOf own_pd7 rfl) rfl (by show 2 * 0 + _ ≤ _; exact Nat.le_of_eq rfl) (Jvm.hb hby at_56) (fun _ _ => ⟨rfl, e16, (by decide : 0 + 0 ≤ _), (by decide : 0 + 0 ≤ _)⟩)
      dsimp only [Pt.U, Pt.locs, Pt.cells, Pt.slots] at X17 l17 y17 z17 st17 hQ17
      subst l17 y17 z17
      obtain ⟨rfl, Nq17, eq17⟩ := hQ17
      have N17 := Fr.app N16 Nq17
      have e17 : T17.heap = h0 := eq17
      refine own_go (fun t k => st17.trans k) ?_
      show Gm p e below T17 m 59 #[iv p0, iv p1, iv (1 : Int32), iv (0 : Int32), rv (fC p1 w0 w1 w2 w3), rv (fB (p1 >>> ((2 : Int32) &&& 31)) w4 w5 w6 w7), rv wC, .unset, .unset, .unset, .unset] [(.int (fA wC (bC p1) wM wD))] _
      refine own_go (fun t₀ k₀ => XS.istore X17.here hx rfl (Jvm.hb hby at_59) rfl (l' := #[iv p0, iv p1, iv (1 : Int32), iv (0 : Int32), rv (fC p1 w0 w1 w2 w3), rv (fB (p1 >>> ((2 : Int32) &&& 31)) w4 w5 w6 w7), rv wC, iv (fA wC (bC p1) wM wD), .unset, .unset, .unset]) rfl k₀) ?_
      show Gm p e below T17 m 61 #[iv p0, iv p1, iv (1 : Int32), iv (0 : Int32), rv (fC p1 w0 w1 w2 w3), rv (fB (p1 >>> ((2 : Int32) &&& 31)) w4 w5 w6 w7), rv wC, iv (fA wC (bC p1) wM wD), .unset, .unset, .unset] [] _
      refine own_go (fun t₀ k₀ => XS.aload X17.here hx rfl (Jvm.hb hby at_61) rfl rfl k₀) ?_
      show Gm p e below T17 m 63 #[iv p0, iv p1, iv (1 : Int32), iv (0 : Int32), rv (fC p1 w0 w1 w2 w3), rv (fB (p1 >>> ((2 : Int32) &&& 31)) w4 w5 w6 w7), rv wC, iv (fA wC (bC p1) wM wD), .unset, .unset, .unset] [(.ref wC)] _
      refine own_go (fun t₀ k₀ => XS.aload X17.here hx rfl (Jvm.hb hby at_63) rfl rfl k₀) ?_
      show Gm p e below T17 m 65 #[iv p0, iv p1, iv (1 : Int32), iv (0 : Int32), rv (fC p1 w0 w1 w2 w3), rv (fB (p1 >>> ((2 : Int32) &&& 31)) w4 w5 w6 w7), rv wC, iv (fA wC (bC p1) wM wD), .unset, .unset, .unset] [(.ref (fB (p1 >>> ((2 : Int32) &&& 31)) w4 w5 w6 w7)), (.ref wC)] _
      obtain ⟨cq18, kq18, q18a, q18b, q18c⟩ := isOf hZ e17 E_wC
      obtain ⟨_, _, ⟨T18, L18, k18, n18⟩, -, X18, ⟨Lc18, hQ18, l18, y18, z18⟩, st18⟩ := X17.virtualBack hx (y := (⟨"com/example/outlay/outlay/nacha/ServiceClass", "allows", "(Lcom/example/outlay/outlay/nacha/TransactionCode;)Z"⟩ : MethodName)) (z := (⟨"com/example/outlay/outlay/nacha/ServiceClass", "allows", "(Lcom/example/outlay/outlay/nacha/TransactionCode;)Z"⟩ : MethodName)) hown (mvT hZ (hw _ (List.mem_of_getElem? (i := 18) rfl))) (mvT hZ (hw _ (List.mem_of_getElem? (i := 19) rfl))) (notFace_of_selects (args := #[]) (mvT hZ (hw _ (List.mem_of_getElem? (i := 21) rfl)))) (mvT hZ (hw _ (List.mem_of_getElem? (i := 21) rfl))) (mvT hZ (hw _ (List.mem_of_getElem? (i := 20) rfl))) (by decide) (backOf (W := 0) (rm4 l Z a0 hw [] wC (fB (p1 >>> ((2 : Int32) &&& 31)) w4 w5 w6 w7) (bD (p1 >>> ((2 : Int32) &&& 31))) wM wD cs w h0 n0 Z0 (own_tcD (p1 >>> ((2 : Int32) &&& 31)) Hw4 Hw5 Hw6 Hw7) S_wM S_wD S_c hcs S_f hv_w) hZ (hw _ (List.mem_of_getElem? (i := 22) rfl)) (hw _ (List.mem_of_getElem? (i := 14) rfl)) (by decide) (by decide)) q18a q18c (g := (mkF m 65 #[iv p0, iv p1, iv (1 : Int32), iv (0 : Int32), rv (fC p1 w0 w1 w2 w3), rv (fB (p1 >>> ((2 : Int32) &&& 31)) w4 w5 w6 w7), rv wC, iv (fA wC (bC p1) wM wD), .unset, .unset, .unset] [(.ref (fB (p1 >>> ((2 : Int32) &&& 31)) w4 w5 w6 w7)), (.ref wC)])) rfl (by rw [hml]; rfl) (Steps.refl _) (argsL := [(.ref (fB (p1 >>> ((2 : Int32) &&& 31)) w4 w5 w6 w7))]) (rest := []) (lenOf own_pd7 rfl) rfl (by show 2 * 0 + _ ≤ _; exact Nat.le_of_eq rfl) (Jvm.hb hby at_65) (fun _ _ => ⟨rfl, e17, (by decide : 0 + 0 ≤ _), (by decide : 0 + 0 ≤ _)⟩)
      dsimp only [Pt.U, Pt.locs, Pt.cells, Pt.slots] at X18 l18 y18 z18 st18 hQ18
      subst l18 y18 z18
      obtain ⟨rfl, Nq18, eq18⟩ := hQ18
      have N18 := Fr.app N17 Nq18
      have e18 : T18.heap = h0 := eq18
      refine own_go (fun t k => st18.trans k) ?_
      show Gm p e below T18 m 68 #[iv p0, iv p1, iv (1 : Int32), iv (0 : Int32), rv (fC p1 w0 w1 w2 w3), rv (fB (p1 >>> ((2 : Int32) &&& 31)) w4 w5 w6 w7), rv wC, iv (fA wC (bC p1) wM wD), .unset, .unset, .unset] [(.int (fA wC (bD (p1 >>> ((2 : Int32) &&& 31))) wM wD))] _
      refine own_go (fun t₀ k₀ => XS.istore X18.here hx rfl (Jvm.hb hby at_68) rfl (l' := #[iv p0, iv p1, iv (1 : Int32), iv (0 : Int32), rv (fC p1 w0 w1 w2 w3), rv (fB (p1 >>> ((2 : Int32) &&& 31)) w4 w5 w6 w7), rv wC, iv (fA wC (bC p1) wM wD), iv (fA wC (bD (p1 >>> ((2 : Int32) &&& 31))) wM wD), .unset, .unset]) rfl k₀) ?_
      show Gm p e below T18 m 70 #[iv p0, iv p1, iv (1 : Int32), iv (0 : Int32), rv (fC p1 w0 w1 w2 w3), rv (fB (p1 >>> ((2 : Int32) &&& 31)) w4 w5 w6 w7), rv wC, iv (fA wC (bC p1) wM wD), iv (fA wC (bD (p1 >>> ((2 : Int32) &&& 31))) wM wD), .unset, .unset] [] _
      refine own_go (fun t₀ k₀ => XS.iloadN X18.here hx rfl (Jvm.hb hby at_70) rfl k₀) ?_
      show Gm p e below T18 m 71 #[iv p0, iv p1, iv (1 : Int32), iv (0 : Int32), rv (fC p1 w0 w1 w2 w3), rv (fB (p1 >>> ((2 : Int32) &&& 31)) w4 w5 w6 w7), rv wC, iv (fA wC (bC p1) wM wD), iv (fA wC (bD (p1 >>> ((2 : Int32) &&& 31))) wM wD), .unset, .unset] [(.int (1 : Int32))] _
      refine own_go (fun t₀ k₀ => XS.ifYes X18.here hx rfl (pc0 := 71) (pc' := 78) rfl (Jvm.hb hby at_71) rfl (XT.i0_ne_t (by decide)) (by decide) (by decide) k₀) ?_
      show Gm p e below T18 m 78 #[iv p0, iv p1, iv (1 : Int32), iv (0 : Int32), rv (fC p1 w0 w1 w2 w3), rv (fB (p1 >>> ((2 : Int32) &&& 31)) w4 w5 w6 w7), rv wC, iv (fA wC (bC p1) wM wD), iv (fA wC (bD (p1 >>> ((2 : Int32) &&& 31))) wM wD), .unset, .unset] [] _
      refine own_go (fun t₀ k₀ => XS.iconst X18.here hx rfl (Jvm.hb hby at_78) k₀) ?_
      show Gm p e below T18 m 79 #[iv p0, iv p1, iv (1 : Int32), iv (0 : Int32), rv (fC p1 w0 w1 w2 w3), rv (fB (p1 >>> ((2 : Int32) &&& 31)) w4 w5 w6 w7), rv wC, iv (fA wC (bC p1) wM wD), iv (fA wC (bD (p1 >>> ((2 : Int32) &&& 31))) wM wD), .unset, .unset] [(.int (1 : Int32))] _
      refine own_go (fun t₀ k₀ => XS.goto X18.here hx rfl (pc0 := 79) (pc' := 83) rfl (Jvm.hb hby at_79) (by decide) (by decide) k₀) ?_
      show Gm p e below T18 m 83 #[iv p0, iv p1, iv (1 : Int32), iv (0 : Int32), rv (fC p1 w0 w1 w2 w3), rv (fB (p1 >>> ((2 : Int32) &&& 31)) w4 w5 w6 w7), rv wC, iv (fA wC (bC p1) wM wD), iv (fA wC (bD (p1 >>> ((2 : Int32) &&& 31))) wM wD), .unset, .unset] [(.int (1 : Int32))] _
      refine own_go (fun t₀ k₀ => XS.istore X18.here hx rfl (Jvm.hb hby at_83) rfl (l' := #[iv p0, iv p1, iv (1 : Int32), iv (0 : Int32), rv (fC p1 w0 w1 w2 w3), rv (fB (p1 >>> ((2 : Int32) &&& 31)) w4 w5 w6 w7), rv wC, iv (fA wC (bC p1) wM wD), iv (fA wC (bD (p1 >>> ((2 : Int32) &&& 31))) wM wD), iv (1 : Int32), .unset]) rfl k₀) ?_
      show Gm p e below T18 m 85 #[iv p0, iv p1, iv (1 : Int32), iv (0 : Int32), rv (fC p1 w0 w1 w2 w3), rv (fB (p1 >>> ((2 : Int32) &&& 31)) w4 w5 w6 w7), rv wC, iv (fA wC (bC p1) wM wD), iv (fA wC (bD (p1 >>> ((2 : Int32) &&& 31))) wM wD), iv (1 : Int32), .unset] [] _
      refine own_go (fun t₀ k₀ => XS.iloadN X18.here hx rfl (Jvm.hb hby at_85) rfl k₀) ?_
      show Gm p e below T18 m 86 #[iv p0, iv p1, iv (1 : Int32), iv (0 : Int32), rv (fC p1 w0 w1 w2 w3), rv (fB (p1 >>> ((2 : Int32) &&& 31)) w4 w5 w6 w7), rv wC, iv (fA wC (bC p1) wM wD), iv (fA wC (bD (p1 >>> ((2 : Int32) &&& 31))) wM wD), iv (1 : Int32), .unset] [(.int (0 : Int32))] _
      refine own_go (fun t₀ k₀ => XS.istore X18.here hx rfl (Jvm.hb hby at_86) rfl (l' := #[iv p0, iv p1, iv (1 : Int32), iv (0 : Int32), rv (fC p1 w0 w1 w2 w3), rv (fB (p1 >>> ((2 : Int32) &&& 31)) w4 w5 w6 w7), rv wC, iv (fA wC (bC p1) wM wD), iv (fA wC (bD (p1 >>> ((2 : Int32) &&& 31))) wM wD), iv (1 : Int32), iv (0 : Int32)]) rfl k₀) ?_
      show Gm p e below T18 m 88 #[iv p0, iv p1, iv (1 : Int32), iv (0 : Int32), rv (fC p1 w0 w1 w2 w3), rv (fB (p1 >>> ((2 : Int32) &&& 31)) w4 w5 w6 w7), rv wC, iv (fA wC (bC p1) wM wD), iv (fA wC (bD (p1 >>> ((2 : Int32) &&& 31))) wM wD), iv (1 : Int32), iv (0 : Int32)] [] _
      refine own_go (fun t₀ k₀ => XS.iload X18.here hx rfl (Jvm.hb hby at_88) rfl k₀) ?_
      show Gm p e below T18 m 90 #[iv p0, iv p1, iv (1 : Int32), iv (0 : Int32), rv (fC p1 w0 w1 w2 w3), rv (fB (p1 >>> ((2 : Int32) &&& 31)) w4 w5 w6 w7), rv wC, iv (fA wC (bC p1) wM wD), iv (fA wC (bD (p1 >>> ((2 : Int32) &&& 31))) wM wD), iv (1 : Int32), iv (0 : Int32)] [(.int (fA wC (bC p1) wM wD))] _
      refine own_go (fun t₀ k₀ => XS.iload X18.here hx rfl (Jvm.hb hby at_90) rfl k₀) ?_
      show Gm p e below T18 m 92 #[iv p0, iv p1, iv (1 : Int32), iv (0 : Int32), rv (fC p1 w0 w1 w2 w3), rv (fB (p1 >>> ((2 : Int32) &&& 31)) w4 w5 w6 w7), rv wC, iv (fA wC (bC p1) wM wD), iv (fA wC (bD (p1 >>> ((2 : Int32) &&& 31))) wM wD), iv (1 : Int32), iv (0 : Int32)] [(.int (1 : Int32)), (.int (fA wC (bC p1) wM wD))] _
      refine own_go (fun t₀ k₀ => XS.icmpNo X18.here hx rfl (Jvm.hb hby at_92) rfl (XT.ii_ne_f (own_Cc _ _ _ _ n_CM n_CD (own_fC _))) k₀) ?_
      show Gm p e below T18 m 95 #[iv p0, iv p1, iv (1 : Int32), iv (0 : Int32), rv (fC p1 w0 w1 w2 w3), rv (fB (p1 >>> ((2 : Int32) &&& 31)) w4 w5 w6 w7), rv wC, iv (fA wC (bC p1) wM wD), iv (fA wC (bD (p1 >>> ((2 : Int32) &&& 31))) wM wD), iv (1 : Int32), iv (0 : Int32)] [] _
      refine own_go (fun t₀ k₀ => XS.iload X18.here hx rfl (Jvm.hb hby at_95) rfl k₀) ?_
      show Gm p e below T18 m 97 #[iv p0, iv p1, iv (1 : Int32), iv (0 : Int32), rv (fC p1 w0 w1 w2 w3), rv (fB (p1 >>> ((2 : Int32) &&& 31)) w4 w5 w6 w7), rv wC, iv (fA wC (bC p1) wM wD), iv (fA wC (bD (p1 >>> ((2 : Int32) &&& 31))) wM wD), iv (1 : Int32), iv (0 : Int32)] [(.int (fA wC (bD (p1 >>> ((2 : Int32) &&& 31))) wM wD))] _
      refine own_go (fun t₀ k₀ => XS.iload X18.here hx rfl (Jvm.hb hby at_97) rfl k₀) ?_
      show Gm p e below T18 m 99 #[iv p0, iv p1, iv (1 : Int32), iv (0 : Int32), rv (fC p1 w0 w1 w2 w3), rv (fB (p1 >>> ((2 : Int32) &&& 31)) w4 w5 w6 w7), rv wC, iv (fA wC (bC p1) wM wD), iv (fA wC (bD (p1 >>> ((2 : Int32) &&& 31))) wM wD), iv (1 : Int32), iv (0 : Int32)] [(.int (0 : Int32)), (.int (fA wC (bD (p1 >>> ((2 : Int32) &&& 31))) wM wD))] _
      refine own_go (fun t₀ k₀ => XS.icmpNo X18.here hx rfl (Jvm.hb hby at_99) rfl (XT.ii_ne_f (own_Cd _ _ _ _ n_CM n_CD (own_fD _))) k₀) ?_
      show Gm p e below T18 m 102 #[iv p0, iv p1, iv (1 : Int32), iv (0 : Int32), rv (fC p1 w0 w1 w2 w3), rv (fB (p1 >>> ((2 : Int32) &&& 31)) w4 w5 w6 w7), rv wC, iv (fA wC (bC p1) wM wD), iv (fA wC (bD (p1 >>> ((2 : Int32) &&& 31))) wM wD), iv (1 : Int32), iv (0 : Int32)] [] _
      refine own_go (fun t₀ k₀ => XS.iconst X18.here hx rfl (Jvm.hb hby at_102) k₀) ?_
      show Gm p e below T18 m 103 #[iv p0, iv p1, iv (1 : Int32), iv (0 : Int32), rv (fC p1 w0 w1 w2 w3), rv (fB (p1 >>> ((2 : Int32) &&& 31)) w4 w5 w6 w7), rv wC, iv (fA wC (bC p1) wM wD), iv (fA wC (bD (p1 >>> ((2 : Int32) &&& 31))) wM wD), iv (1 : Int32), iv (0 : Int32)] [(.int (1 : Int32))] _
      refine own_go (fun t₀ k₀ => XS.goto X18.here hx rfl (pc0 := 103) (pc' := 107) rfl (Jvm.hb hby at_103) (by decide) (by decide) k₀) ?_
      show Gm p e below T18 m 107 #[iv p0, iv p1, iv (1 : Int32), iv (0 : Int32), rv (fC p1 w0 w1 w2 w3), rv (fB (p1 >>> ((2 : Int32) &&& 31)) w4 w5 w6 w7), rv wC, iv (fA wC (bC p1) wM wD), iv (fA wC (bD (p1 >>> ((2 : Int32) &&& 31))) wM wD), iv (1 : Int32), iv (0 : Int32)] [(.int (1 : Int32))] _
      exact own_retI X18 hx hlk (t := .boolean) Bd.returns rfl (by simp) (Jvm.hb hby at_107) e18 ⟨rfl, N18⟩ (by decide) (by decide)
    · have hfork := trivial
      refine own_go (fun t₀ k₀ => XS.ifNo X0.here hx rfl (Jvm.hb hby at_15) rfl (XT.i0_eq_f c13) k₀) ?_
      show Gm p e below s₁ m 18 #[iv p0, iv p1, iv (1 : Int32), .unset, .unset, .unset, .unset, .unset, .unset, .unset, .unset] [] _
      refine own_go (fun t₀ k₀ => XS.iconst X0.here hx rfl (Jvm.hb hby at_18) k₀) ?_
      show Gm p e below s₁ m 19 #[iv p0, iv p1, iv (1 : Int32), .unset, .unset, .unset, .unset, .unset, .unset, .unset, .unset] [(.int (1 : Int32))] _
      refine own_go (fun t₀ k₀ => XS.goto X0.here hx rfl (pc0 := 19) (pc' := 23) rfl (Jvm.hb hby at_19) (by decide) (by decide) k₀) ?_
      show Gm p e below s₁ m 23 #[iv p0, iv p1, iv (1 : Int32), .unset, .unset, .unset, .unset, .unset, .unset, .unset, .unset] [(.int (1 : Int32))] _
      refine own_go (fun t₀ k₀ => XS.istoreN X0.here hx rfl (Jvm.hb hby at_23) rfl (l' := #[iv p0, iv p1, iv (1 : Int32), iv (1 : Int32), .unset, .unset, .unset, .unset, .unset, .unset, .unset]) rfl k₀) ?_
      show Gm p e below s₁ m 24 #[iv p0, iv p1, iv (1 : Int32), iv (1 : Int32), .unset, .unset, .unset, .unset, .unset, .unset, .unset] [] _
      refine own_go (fun t₀ k₀ => XS.iloadN X0.here hx rfl (Jvm.hb hby at_24) rfl k₀) ?_
      show Gm p e below s₁ m 25 #[iv p0, iv p1, iv (1 : Int32), iv (1 : Int32), .unset, .unset, .unset, .unset, .unset, .unset, .unset] [(.int p1)] _
      obtain ⟨_, _, ⟨T19, L19, k19, n19⟩, -, X19, ⟨Lc19, hQ19, l19, y19, z19⟩, st19⟩ := Jvm.LawKit.callS X0 hx (y := (⟨"com/example/outlay/outlay/nacha/ServiceClassHoldingPinLaw", "creditCode", "(I)Lcom/example/outlay/outlay/nacha/TransactionCode;"⟩ : MethodName)) hown (mvT hZ (hw _ (List.mem_of_getElem? (i := 0) rfl))) (mvT hZ (hw _ (List.mem_of_getElem? (i := 1) rfl))) (mvT hZ (hw _ (List.mem_of_getElem? (i := 2) rfl))) (mvT hZ (hw _ (List.mem_of_getElem? (i := 3) rfl))) (by decide) (backOf (W := 0) (rm1 l Z a0 hw [] p1 w0 w1 w2 w3 h0 n0 Z0 S_w0 S_w1 S_w2 S_w3) hZ (hw _ (List.mem_of_getElem? (i := 3) rfl)) (hw _ (List.mem_of_getElem? (i := 2) rfl)) (by decide) (by decide)) (g := (mkF m 25 #[iv p0, iv p1, iv (1 : Int32), iv (1 : Int32), .unset, .unset, .unset, .unset, .unset, .unset, .unset] [(.int p1)])) rfl (by rw [hml]; rfl) (argsL := [(.int p1)]) (rest := []) (lenOf own_pd5 rfl) rfl (by show 2 * 0 + _ ≤ _; exact Nat.le_of_eq rfl) (Jvm.hb hby at_25) (fun _ _ => ⟨rfl, e0, (by decide : 0 + 0 ≤ _), (by decide : 0 + 0 ≤ _)⟩)
      dsimp only [Pt.U, Pt.locs, Pt.cells, Pt.slots] at X19 l19 y19 z19 st19 hQ19
      subst l19 y19 z19
      obtain ⟨rfl, Nq19, eq19⟩ := hQ19
      have N19 := Fr.app N0 Nq19
      have e19 : T19.heap = h0 := eq19
      refine own_go st19 ?_
      show Gm p e below T19 m 28 #[iv p0, iv p1, iv (1 : Int32), iv (1 : Int32), .unset, .unset, .unset, .unset, .unset, .unset, .unset] [(.ref (fC p1 w0 w1 w2 w3))] _
      refine own_go (fun t₀ k₀ => XS.astore X19.here hx rfl (Jvm.hb hby at_28) rfl rfl (l' := #[iv p0, iv p1, iv (1 : Int32), iv (1 : Int32), rv (fC p1 w0 w1 w2 w3), .unset, .unset, .unset, .unset, .unset, .unset]) rfl k₀) ?_
      show Gm p e below T19 m 30 #[iv p0, iv p1, iv (1 : Int32), iv (1 : Int32), rv (fC p1 w0 w1 w2 w3), .unset, .unset, .unset, .unset, .unset, .unset] [] _
      refine own_go (fun t₀ k₀ => XS.iloadN X19.here hx rfl (Jvm.hb hby at_30) rfl k₀) ?_
      show Gm p e below T19 m 31 #[iv p0, iv p1, iv (1 : Int32), iv (1 : Int32), rv (fC p1 w0 w1 w2 w3), .unset, .unset, .unset, .unset, .unset, .unset] [(.int p1)] _
      refine own_go (fun t₀ k₀ => XS.iconst X19.here hx rfl (Jvm.hb hby at_31) k₀) ?_
      show Gm p e below T19 m 32 #[iv p0, iv p1, iv (1 : Int32), iv (1 : Int32), rv (fC p1 w0 w1 w2 w3), .unset, .unset, .unset, .unset, .unset, .unset] [(.int (2 : Int32)), (.int p1)] _
      refine own_go (fun t₀ k₀ => XS.ishr X19.here hx rfl (Jvm.hb hby at_32) rfl k₀) ?_
      show Gm p e below T19 m 33 #[iv p0, iv p1, iv (1 : Int32), iv (1 : Int32), rv (fC p1 w0 w1 w2 w3), .unset, .unset, .unset, .unset, .unset, .unset] [(.int (p1 >>> ((2 : Int32) &&& 31)))] _
      obtain ⟨_, _, ⟨T20, L20, k20, n20⟩, -, X20, ⟨Lc20, hQ20, l20, y20, z20⟩, st20⟩ := Jvm.LawKit.callS X19 hx (y := (⟨"com/example/outlay/outlay/nacha/ServiceClassHoldingPinLaw", "debitCode", "(I)Lcom/example/outlay/outlay/nacha/TransactionCode;"⟩ : MethodName)) hown (mvT hZ (hw _ (List.mem_of_getElem? (i := 7) rfl))) (mvT hZ (hw _ (List.mem_of_getElem? (i := 8) rfl))) (mvT hZ (hw _ (List.mem_of_getElem? (i := 2) rfl))) (mvT hZ (hw _ (List.mem_of_getElem? (i := 9) rfl))) (by decide) (backOf (W := 0) (rm2 l Z a0 hw [] (p1 >>> ((2 : Int32) &&& 31)) w4 w5 w6 w7 h0 n0 Z0 S_w4 S_w5 S_w6 S_w7) hZ (hw _ (List.mem_of_getElem? (i := 9) rfl)) (hw _ (List.mem_of_getElem? (i := 2) rfl)) (by decide) (by decide)) (g := (mkF m 33 #[iv p0, iv p1, iv (1 : Int32), iv (1 : Int32), rv (fC p1 w0 w1 w2 w3), .unset, .unset, .unset, .unset, .unset, .unset] [(.int (p1 >>> ((2 : Int32) &&& 31)))])) rfl (by rw [hml]; rfl) (argsL := [(.int (p1 >>> ((2 : Int32) &&& 31)))]) (rest := []) (lenOf own_pd5 rfl) rfl (by show 2 * 0 + _ ≤ _; exact Nat.le_of_eq rfl) (Jvm.hb hby at_33) (fun _ _ => ⟨rfl, e19, (by decide : 0 + 0 ≤ _), (by decide : 0 + 0 ≤ _)⟩)
      dsimp only [Pt.U, Pt.locs, Pt.cells, Pt.slots] at X20 l20 y20 z20 st20 hQ20
      subst l20 y20 z20
      obtain ⟨rfl, Nq20, eq20⟩ := hQ20
      have N20 := Fr.app N19 Nq20
      have e20 : T20.heap = h0 := eq20
      refine own_go st20 ?_
      show Gm p e below T20 m 36 #[iv p0, iv p1, iv (1 : Int32), iv (1 : Int32), rv (fC p1 w0 w1 w2 w3), .unset, .unset, .unset, .unset, .unset, .unset] [(.ref (fB (p1 >>> ((2 : Int32) &&& 31)) w4 w5 w6 w7))] _
      refine own_go (fun t₀ k₀ => XS.astore X20.here hx rfl (Jvm.hb hby at_36) rfl rfl (l' := #[iv p0, iv p1, iv (1 : Int32), iv (1 : Int32), rv (fC p1 w0 w1 w2 w3), rv (fB (p1 >>> ((2 : Int32) &&& 31)) w4 w5 w6 w7), .unset, .unset, .unset, .unset, .unset]) rfl k₀) ?_
      show Gm p e below T20 m 38 #[iv p0, iv p1, iv (1 : Int32), iv (1 : Int32), rv (fC p1 w0 w1 w2 w3), rv (fB (p1 >>> ((2 : Int32) &&& 31)) w4 w5 w6 w7), .unset, .unset, .unset, .unset, .unset] [] _
      refine own_go (fun t₀ k₀ => XS.iloadN X20.here hx rfl (Jvm.hb hby at_38) rfl k₀) ?_
      show Gm p e below T20 m 39 #[iv p0, iv p1, iv (1 : Int32), iv (1 : Int32), rv (fC p1 w0 w1 w2 w3), rv (fB (p1 >>> ((2 : Int32) &&& 31)) w4 w5 w6 w7), .unset, .unset, .unset, .unset, .unset] [(.int (1 : Int32))] _
      refine own_go (fun t₀ k₀ => XS.iloadN X20.here hx rfl (Jvm.hb hby at_39) rfl k₀) ?_
      show Gm p e below T20 m 40 #[iv p0, iv p1, iv (1 : Int32), iv (1 : Int32), rv (fC p1 w0 w1 w2 w3), rv (fB (p1 >>> ((2 : Int32) &&& 31)) w4 w5 w6 w7), .unset, .unset, .unset, .unset, .unset] [(.int (1 : Int32)), (.int (1 : Int32))] _
      obtain ⟨_, _, ⟨T21, L21, k21, n21⟩, -, X21, ⟨Lc21, hQ21, l21, y21, z21⟩, st21⟩ := Jvm.LawKit.callS X20 hx (y := (⟨"com/example/outlay/outlay/nacha/ServiceClass", "holding", "(ZZ)Lcom/example/outlay/outlay/nacha/ServiceClass;"⟩ : MethodName)) hown (mvT hZ (hw _ (List.mem_of_getElem? (i := 12) rfl))) (mvT hZ (hw _ (List.mem_of_getElem? (i := 13) rfl))) (mvT hZ (hw _ (List.mem_of_getElem? (i := 14) rfl))) (mvT hZ (hw _ (List.mem_of_getElem? (i := 15) rfl))) (by decide) (backOf (W := 0) (rm3 l Z a0 hw [] (1 : Int32) (1 : Int32) wM wC wD h0 n0 Z0 S_wM S_wC S_wD) hZ (hw _ (List.mem_of_getElem? (i := 15) rfl)) (hw _ (List.mem_of_getElem? (i := 14) rfl)) (by decide) (by decide)) (g := (mkF m 40 #[iv p0, iv p1, iv (1 : Int32), iv (1 : Int32), rv (fC p1 w0 w1 w2 w3), rv (fB (p1 >>> ((2 : Int32) &&& 31)) w4 w5 w6 w7), .unset, .unset, .unset, .unset, .unset] [(.int (1 : Int32)), (.int (1 : Int32))])) rfl (by rw [hml]; rfl) (argsL := [(.int (1 : Int32)), (.int (1 : Int32))]) (rest := []) (lenOf own_pd6 rfl) rfl (by show 2 * 0 + _ ≤ _; exact Nat.le_of_eq rfl) (Jvm.hb hby at_40) (fun _ _ => ⟨rfl, e20, (by decide : 0 + 0 ≤ _), (by decide : 0 + 0 ≤ _)⟩)
      dsimp only [Pt.U, Pt.locs, Pt.cells, Pt.slots] at X21 l21 y21 z21 st21 hQ21
      subst l21 y21 z21
      obtain ⟨rfl, Nq21, eq21⟩ := hQ21
      have N21 := Fr.app N20 Nq21
      have e21 : T21.heap = h0 := eq21
      refine own_go st21 ?_
      show Gm p e below T21 m 43 #[iv p0, iv p1, iv (1 : Int32), iv (1 : Int32), rv (fC p1 w0 w1 w2 w3), rv (fB (p1 >>> ((2 : Int32) &&& 31)) w4 w5 w6 w7), .unset, .unset, .unset, .unset, .unset] [(.ref wM)] _
      refine own_go (fun t₀ k₀ => XS.astore X21.here hx rfl (Jvm.hb hby at_43) rfl rfl (l' := #[iv p0, iv p1, iv (1 : Int32), iv (1 : Int32), rv (fC p1 w0 w1 w2 w3), rv (fB (p1 >>> ((2 : Int32) &&& 31)) w4 w5 w6 w7), rv wM, .unset, .unset, .unset, .unset]) rfl k₀) ?_
      show Gm p e below T21 m 45 #[iv p0, iv p1, iv (1 : Int32), iv (1 : Int32), rv (fC p1 w0 w1 w2 w3), rv (fB (p1 >>> ((2 : Int32) &&& 31)) w4 w5 w6 w7), rv wM, .unset, .unset, .unset, .unset] [] _
      refine own_go (fun t₀ k₀ => XS.aload X21.here hx rfl (Jvm.hb hby at_45) rfl rfl k₀) ?_
      show Gm p e below T21 m 47 #[iv p0, iv p1, iv (1 : Int32), iv (1 : Int32), rv (fC p1 w0 w1 w2 w3), rv (fB (p1 >>> ((2 : Int32) &&& 31)) w4 w5 w6 w7), rv wM, .unset, .unset, .unset, .unset] [(.ref wM)] _
      refine own_go (fun t₀ k₀ => XS.ifnonnullYes X21.here hx rfl (pc0 := 47) (pc' := 52) rfl (Jvm.hb hby at_47) rfl (by decide) (by decide) k₀) ?_
      show Gm p e below T21 m 52 #[iv p0, iv p1, iv (1 : Int32), iv (1 : Int32), rv (fC p1 w0 w1 w2 w3), rv (fB (p1 >>> ((2 : Int32) &&& 31)) w4 w5 w6 w7), rv wM, .unset, .unset, .unset, .unset] [] _
      refine own_go (fun t₀ k₀ => XS.aload X21.here hx rfl (Jvm.hb hby at_52) rfl rfl k₀) ?_
      show Gm p e below T21 m 54 #[iv p0, iv p1, iv (1 : Int32), iv (1 : Int32), rv (fC p1 w0 w1 w2 w3), rv (fB (p1 >>> ((2 : Int32) &&& 31)) w4 w5 w6 w7), rv wM, .unset, .unset, .unset, .unset] [(.ref wM)] _
      refine own_go (fun t₀ k₀ => XS.aload X21.here hx rfl (Jvm.hb hby at_54) rfl rfl k₀) ?_
      show Gm p e below T21 m 56 #[iv p0, iv p1, iv (1 : Int32), iv (1 : Int32), rv (fC p1 w0 w1 w2 w3), rv (fB (p1 >>> ((2 : Int32) &&& 31)) w4 w5 w6 w7), rv wM, .unset, .unset, .unset, .unset] [(.ref (fC p1 w0 w1 w2 w3)), (.ref wM)] _
      obtain ⟨cq22, kq22, q22a, q22b, q22c⟩ := isOf hZ e21 E_wM
      obtain ⟨_, _, ⟨T22, L22, k22, n22⟩, -, X22, ⟨Lc22, hQ22, l22, y22, z22⟩, st22⟩ := X21.virtualBack hx (y := (⟨"com/example/outlay/outlay/nacha/ServiceClass", "allows", "(Lcom/example/outlay/outlay/nacha/TransactionCode;)Z"⟩ : MethodName)) (z := (⟨"com/example/outlay/outlay/nacha/ServiceClass", "allows", "(Lcom/example/outlay/outlay/nacha/TransactionCode;)Z"⟩ : MethodName)) hown (mvT hZ (hw _ (List.mem_of_getElem? (i := 18) rfl))) (mvT hZ (hw _ (List.mem_of_getElem? (i := 19) rfl))) (notFace_of_selects (args := #[]) (mvT hZ (hw _ (List.mem_of_getElem? (i := 21) rfl)))) (mvT hZ (hw _ (List.mem_of_getElem? (i := 21) rfl))) (mvT hZ (hw _ (List.mem_of_getElem? (i := 20) rfl))) (by decide) (backOf (W := 0) (rm4 l Z a0 hw [] wM (fC p1 w0 w1 w2 w3) (bC p1) wM wD cs w h0 n0 Z0 (own_tcC p1 Hw0 Hw1 Hw2 Hw3) S_wM S_wD S_c hcs S_f hv_w) hZ (hw _ (List.mem_of_getElem? (i := 22) rfl)) (hw _ (List.mem_of_getElem? (i := 14) rfl)) (by decide) (by decide)) q22a q22c (g := (mkF m 56 #[iv p0, iv p1, iv (1 : Int32), iv (1 : Int32), rv (fC p1 w0 w1 w2 w3), rv (fB (p1 >>> ((2 : Int32) &&& 31)) w4 w5 w6 w7), rv wM, .unset, .unset, .unset, .unset] [(.ref (fC p1 w0 w1 w2 w3)), (.ref wM)])) rfl (by rw [hml]; rfl) (Steps.refl _) (argsL := [(.ref (fC p1 w0 w1 w2 w3))]) (rest := []) (lenOf own_pd7 rfl) rfl (by show 2 * 0 + _ ≤ _; exact Nat.le_of_eq rfl) (Jvm.hb hby at_56) (fun _ _ => ⟨rfl, e21, (by decide : 0 + 0 ≤ _), (by decide : 0 + 0 ≤ _)⟩)
      dsimp only [Pt.U, Pt.locs, Pt.cells, Pt.slots] at X22 l22 y22 z22 st22 hQ22
      subst l22 y22 z22
      obtain ⟨rfl, Nq22, eq22⟩ := hQ22
      have N22 := Fr.app N21 Nq22
      have e22 : T22.heap = h0 := eq22
      refine own_go (fun t k => st22.trans k) ?_
      show Gm p e below T22 m 59 #[iv p0, iv p1, iv (1 : Int32), iv (1 : Int32), rv (fC p1 w0 w1 w2 w3), rv (fB (p1 >>> ((2 : Int32) &&& 31)) w4 w5 w6 w7), rv wM, .unset, .unset, .unset, .unset] [(.int (fA wM (bC p1) wM wD))] _
      refine own_go (fun t₀ k₀ => XS.istore X22.here hx rfl (Jvm.hb hby at_59) rfl (l' := #[iv p0, iv p1, iv (1 : Int32), iv (1 : Int32), rv (fC p1 w0 w1 w2 w3), rv (fB (p1 >>> ((2 : Int32) &&& 31)) w4 w5 w6 w7), rv wM, iv (fA wM (bC p1) wM wD), .unset, .unset, .unset]) rfl k₀) ?_
      show Gm p e below T22 m 61 #[iv p0, iv p1, iv (1 : Int32), iv (1 : Int32), rv (fC p1 w0 w1 w2 w3), rv (fB (p1 >>> ((2 : Int32) &&& 31)) w4 w5 w6 w7), rv wM, iv (fA wM (bC p1) wM wD), .unset, .unset, .unset] [] _
      refine own_go (fun t₀ k₀ => XS.aload X22.here hx rfl (Jvm.hb hby at_61) rfl rfl k₀) ?_
      show Gm p e below T22 m 63 #[iv p0, iv p1, iv (1 : Int32), iv (1 : Int32), rv (fC p1 w0 w1 w2 w3), rv (fB (p1 >>> ((2 : Int32) &&& 31)) w4 w5 w6 w7), rv wM, iv (fA wM (bC p1) wM wD), .unset, .unset, .unset] [(.ref wM)] _
      refine own_go (fun t₀ k₀ => XS.aload X22.here hx rfl (Jvm.hb hby at_63) rfl rfl k₀) ?_
      show Gm p e below T22 m 65 #[iv p0, iv p1, iv (1 : Int32), iv (1 : Int32), rv (fC p1 w0 w1 w2 w3), rv (fB (p1 >>> ((2 : Int32) &&& 31)) w4 w5 w6 w7), rv wM, iv (fA wM (bC p1) wM wD), .unset, .unset, .unset] [(.ref (fB (p1 >>> ((2 : Int32) &&& 31)) w4 w5 w6 w7)), (.ref wM)] _
      obtain ⟨cq23, kq23, q23a, q23b, q23c⟩ := isOf hZ e22 E_wM
      obtain ⟨_, _, ⟨T23, L23, k23, n23⟩, -, X23, ⟨Lc23, hQ23, l23, y23, z23⟩, st23⟩ := X22.virtualBack hx (y := (⟨"com/example/outlay/outlay/nacha/ServiceClass", "allows", "(Lcom/example/outlay/outlay/nacha/TransactionCode;)Z"⟩ : MethodName)) (z := (⟨"com/example/outlay/outlay/nacha/ServiceClass", "allows", "(Lcom/example/outlay/outlay/nacha/TransactionCode;)Z"⟩ : MethodName)) hown (mvT hZ (hw _ (List.mem_of_getElem? (i := 18) rfl))) (mvT hZ (hw _ (List.mem_of_getElem? (i := 19) rfl))) (notFace_of_selects (args := #[]) (mvT hZ (hw _ (List.mem_of_getElem? (i := 21) rfl)))) (mvT hZ (hw _ (List.mem_of_getElem? (i := 21) rfl))) (mvT hZ (hw _ (List.mem_of_getElem? (i := 20) rfl))) (by decide) (backOf (W := 0) (rm4 l Z a0 hw [] wM (fB (p1 >>> ((2 : Int32) &&& 31)) w4 w5 w6 w7) (bD (p1 >>> ((2 : Int32) &&& 31))) wM wD cs w h0 n0 Z0 (own_tcD (p1 >>> ((2 : Int32) &&& 31)) Hw4 Hw5 Hw6 Hw7) S_wM S_wD S_c hcs S_f hv_w) hZ (hw _ (List.mem_of_getElem? (i := 22) rfl)) (hw _ (List.mem_of_getElem? (i := 14) rfl)) (by decide) (by decide)) q23a q23c (g := (mkF m 65 #[iv p0, iv p1, iv (1 : Int32), iv (1 : Int32), rv (fC p1 w0 w1 w2 w3), rv (fB (p1 >>> ((2 : Int32) &&& 31)) w4 w5 w6 w7), rv wM, iv (fA wM (bC p1) wM wD), .unset, .unset, .unset] [(.ref (fB (p1 >>> ((2 : Int32) &&& 31)) w4 w5 w6 w7)), (.ref wM)])) rfl (by rw [hml]; rfl) (Steps.refl _) (argsL := [(.ref (fB (p1 >>> ((2 : Int32) &&& 31)) w4 w5 w6 w7))]) (rest := []) (lenOf own_pd7 rfl) rfl (by show 2 * 0 + _ ≤ _; exact Nat.le_of_eq rfl) (Jvm.hb hby at_65) (fun _ _ => ⟨rfl, e22, (by decide : 0 + 0 ≤ _), (by decide : 0 + 0 ≤ _)⟩)
      dsimp only [Pt.U, Pt.locs, Pt.cells, Pt.slots] at X23 l23 y23 z23 st23 hQ23
      subst l23 y23 z23
      obtain ⟨rfl, Nq23, eq23⟩ := hQ23
      have N23 := Fr.app N22 Nq23
      have e23 : T23.heap = h0 := eq23
      refine own_go (fun t k => st23.trans k) ?_
      show Gm p e below T23 m 68 #[iv p0, iv p1, iv (1 : Int32), iv (1 : Int32), rv (fC p1 w0 w1 w2 w3), rv (fB (p1 >>> ((2 : Int32) &&& 31)) w4 w5 w6 w7), rv wM, iv (fA wM (bC p1) wM wD), .unset, .unset, .unset] [(.int (fA wM (bD (p1 >>> ((2 : Int32) &&& 31))) wM wD))] _
      refine own_go (fun t₀ k₀ => XS.istore X23.here hx rfl (Jvm.hb hby at_68) rfl (l' := #[iv p0, iv p1, iv (1 : Int32), iv (1 : Int32), rv (fC p1 w0 w1 w2 w3), rv (fB (p1 >>> ((2 : Int32) &&& 31)) w4 w5 w6 w7), rv wM, iv (fA wM (bC p1) wM wD), iv (fA wM (bD (p1 >>> ((2 : Int32) &&& 31))) wM wD), .unset, .unset]) rfl k₀) ?_
      show Gm p e below T23 m 70 #[iv p0, iv p1, iv (1 : Int32), iv (1 : Int32), rv (fC p1 w0 w1 w2 w3), rv (fB (p1 >>> ((2 : Int32) &&& 31)) w4 w5 w6 w7), rv wM, iv (fA wM (bC p1) wM wD), iv (fA wM (bD (p1 >>> ((2 : Int32) &&& 31))) wM wD), .unset, .unset] [] _
      refine own_go (fun t₀ k₀ => XS.iloadN X23.here hx rfl (Jvm.hb hby at_70) rfl k₀) ?_
      show Gm p e below T23 m 71 #[iv p0, iv p1, iv (1 : Int32), iv (1 : Int32), rv (fC p1 w0 w1 w2 w3), rv (fB (p1 >>> ((2 : Int32) &&& 31)) w4 w5 w6 w7), rv wM, iv (fA wM (bC p1) wM wD), iv (fA wM (bD (p1 >>> ((2 : Int32) &&& 31))) wM wD), .unset, .unset] [(.int (1 : Int32))] _
      refine own_go (fun t₀ k₀ => XS.ifYes X23.here hx rfl (pc0 := 71) (pc' := 78) rfl (Jvm.hb hby at_71) rfl (XT.i0_ne_t (by decide)) (by decide) (by decide) k₀) ?_
      show Gm p e below T23 m 78 #[iv p0, iv p1, iv (1 : Int32), iv (1 : Int32), rv (fC p1 w0 w1 w2 w3), rv (fB (p1 >>> ((2 : Int32) &&& 31)) w4 w5 w6 w7), rv wM, iv (fA wM (bC p1) wM wD), iv (fA wM (bD (p1 >>> ((2 : Int32) &&& 31))) wM wD), .unset, .unset] [] _
      refine own_go (fun t₀ k₀ => XS.iconst X23.here hx rfl (Jvm.hb hby at_78) k₀) ?_
      show Gm p e below T23 m 79 #[iv p0, iv p1, iv (1 : Int32), iv (1 : Int32), rv (fC p1 w0 w1 w2 w3), rv (fB (p1 >>> ((2 : Int32) &&& 31)) w4 w5 w6 w7), rv wM, iv (fA wM (bC p1) wM wD), iv (fA wM (bD (p1 >>> ((2 : Int32) &&& 31))) wM wD), .unset, .unset] [(.int (1 : Int32))] _
      refine own_go (fun t₀ k₀ => XS.goto X23.here hx rfl (pc0 := 79) (pc' := 83) rfl (Jvm.hb hby at_79) (by decide) (by decide) k₀) ?_
      show Gm p e below T23 m 83 #[iv p0, iv p1, iv (1 : Int32), iv (1 : Int32), rv (fC p1 w0 w1 w2 w3), rv (fB (p1 >>> ((2 : Int32) &&& 31)) w4 w5 w6 w7), rv wM, iv (fA wM (bC p1) wM wD), iv (fA wM (bD (p1 >>> ((2 : Int32) &&& 31))) wM wD), .unset, .unset] [(.int (1 : Int32))] _
      refine own_go (fun t₀ k₀ => XS.istore X23.here hx rfl (Jvm.hb hby at_83) rfl (l' := #[iv p0, iv p1, iv (1 : Int32), iv (1 : Int32), rv (fC p1 w0 w1 w2 w3), rv (fB (p1 >>> ((2 : Int32) &&& 31)) w4 w5 w6 w7), rv wM, iv (fA wM (bC p1) wM wD), iv (fA wM (bD (p1 >>> ((2 : Int32) &&& 31))) wM wD), iv (1 : Int32), .unset]) rfl k₀) ?_
      show Gm p e below T23 m 85 #[iv p0, iv p1, iv (1 : Int32), iv (1 : Int32), rv (fC p1 w0 w1 w2 w3), rv (fB (p1 >>> ((2 : Int32) &&& 31)) w4 w5 w6 w7), rv wM, iv (fA wM (bC p1) wM wD), iv (fA wM (bD (p1 >>> ((2 : Int32) &&& 31))) wM wD), iv (1 : Int32), .unset] [] _
      refine own_go (fun t₀ k₀ => XS.iloadN X23.here hx rfl (Jvm.hb hby at_85) rfl k₀) ?_
      show Gm p e below T23 m 86 #[iv p0, iv p1, iv (1 : Int32), iv (1 : Int32), rv (fC p1 w0 w1 w2 w3), rv (fB (p1 >>> ((2 : Int32) &&& 31)) w4 w5 w6 w7), rv wM, iv (fA wM (bC p1) wM wD), iv (fA wM (bD (p1 >>> ((2 : Int32) &&& 31))) wM wD), iv (1 : Int32), .unset] [(.int (1 : Int32))] _
      refine own_go (fun t₀ k₀ => XS.istore X23.here hx rfl (Jvm.hb hby at_86) rfl (l' := #[iv p0, iv p1, iv (1 : Int32), iv (1 : Int32), rv (fC p1 w0 w1 w2 w3), rv (fB (p1 >>> ((2 : Int32) &&& 31)) w4 w5 w6 w7), rv wM, iv (fA wM (bC p1) wM wD), iv (fA wM (bD (p1 >>> ((2 : Int32) &&& 31))) wM wD), iv (1 : Int32), iv (1 : Int32)]) rfl k₀) ?_
      show Gm p e below T23 m 88 #[iv p0, iv p1, iv (1 : Int32), iv (1 : Int32), rv (fC p1 w0 w1 w2 w3), rv (fB (p1 >>> ((2 : Int32) &&& 31)) w4 w5 w6 w7), rv wM, iv (fA wM (bC p1) wM wD), iv (fA wM (bD (p1 >>> ((2 : Int32) &&& 31))) wM wD), iv (1 : Int32), iv (1 : Int32)] [] _
      refine own_go (fun t₀ k₀ => XS.iload X23.here hx rfl (Jvm.hb hby at_88) rfl k₀) ?_
      show Gm p e below T23 m 90 #[iv p0, iv p1, iv (1 : Int32), iv (1 : Int32), rv (fC p1 w0 w1 w2 w3), rv (fB (p1 >>> ((2 : Int32) &&& 31)) w4 w5 w6 w7), rv wM, iv (fA wM (bC p1) wM wD), iv (fA wM (bD (p1 >>> ((2 : Int32) &&& 31))) wM wD), iv (1 : Int32), iv (1 : Int32)] [(.int (fA wM (bC p1) wM wD))] _
      refine own_go (fun t₀ k₀ => XS.iload X23.here hx rfl (Jvm.hb hby at_90) rfl k₀) ?_
      show Gm p e below T23 m 92 #[iv p0, iv p1, iv (1 : Int32), iv (1 : Int32), rv (fC p1 w0 w1 w2 w3), rv (fB (p1 >>> ((2 : Int32) &&& 31)) w4 w5 w6 w7), rv wM, iv (fA wM (bC p1) wM wD), iv (fA wM (bD (p1 >>> ((2 : Int32) &&& 31))) wM wD), iv (1 : Int32), iv (1 : Int32)] [(.int (1 : Int32)), (.int (fA wM (bC p1) wM wD))] _
      refine own_go (fun t₀ k₀ => XS.icmpNo X23.here hx rfl (Jvm.hb hby at_92) rfl (XT.ii_ne_f (own_M _ _ _)) k₀) ?_
      show Gm p e below T23 m 95 #[iv p0, iv p1, iv (1 : Int32), iv (1 : Int32), rv (fC p1 w0 w1 w2 w3), rv (fB (p1 >>> ((2 : Int32) &&& 31)) w4 w5 w6 w7), rv wM, iv (fA wM (bC p1) wM wD), iv (fA wM (bD (p1 >>> ((2 : Int32) &&& 31))) wM wD), iv (1 : Int32), iv (1 : Int32)] [] _
      refine own_go (fun t₀ k₀ => XS.iload X23.here hx rfl (Jvm.hb hby at_95) rfl k₀) ?_
      show Gm p e below T23 m 97 #[iv p0, iv p1, iv (1 : Int32), iv (1 : Int32), rv (fC p1 w0 w1 w2 w3), rv (fB (p1 >>> ((2 : Int32) &&& 31)) w4 w5 w6 w7), rv wM, iv (fA wM (bC p1) wM wD), iv (fA wM (bD (p1 >>> ((2 : Int32) &&& 31))) wM wD), iv (1 : Int32), iv (1 : Int32)] [(.int (fA wM (bD (p1 >>> ((2 : Int32) &&& 31))) wM wD))] _
      refine own_go (fun t₀ k₀ => XS.iload X23.here hx rfl (Jvm.hb hby at_97) rfl k₀) ?_
      show Gm p e below T23 m 99 #[iv p0, iv p1, iv (1 : Int32), iv (1 : Int32), rv (fC p1 w0 w1 w2 w3), rv (fB (p1 >>> ((2 : Int32) &&& 31)) w4 w5 w6 w7), rv wM, iv (fA wM (bC p1) wM wD), iv (fA wM (bD (p1 >>> ((2 : Int32) &&& 31))) wM wD), iv (1 : Int32), iv (1 : Int32)] [(.int (1 : Int32)), (.int (fA wM (bD (p1 >>> ((2 : Int32) &&& 31))) wM wD))] _
      refine own_go (fun t₀ k₀ => XS.icmpNo X23.here hx rfl (Jvm.hb hby at_99) rfl (XT.ii_ne_f (own_M _ _ _)) k₀) ?_
      show Gm p e below T23 m 102 #[iv p0, iv p1, iv (1 : Int32), iv (1 : Int32), rv (fC p1 w0 w1 w2 w3), rv (fB (p1 >>> ((2 : Int32) &&& 31)) w4 w5 w6 w7), rv wM, iv (fA wM (bC p1) wM wD), iv (fA wM (bD (p1 >>> ((2 : Int32) &&& 31))) wM wD), iv (1 : Int32), iv (1 : Int32)] [] _
      refine own_go (fun t₀ k₀ => XS.iconst X23.here hx rfl (Jvm.hb hby at_102) k₀) ?_
      show Gm p e below T23 m 103 #[iv p0, iv p1, iv (1 : Int32), iv (1 : Int32), rv (fC p1 w0 w1 w2 w3), rv (fB (p1 >>> ((2 : Int32) &&& 31)) w4 w5 w6 w7), rv wM, iv (fA wM (bC p1) wM wD), iv (fA wM (bD (p1 >>> ((2 : Int32) &&& 31))) wM wD), iv (1 : Int32), iv (1 : Int32)] [(.int (1 : Int32))] _
      refine own_go (fun t₀ k₀ => XS.goto X23.here hx rfl (pc0 := 103) (pc' := 107) rfl (Jvm.hb hby at_103) (by decide) (by decide) k₀) ?_
      show Gm p e below T23 m 107 #[iv p0, iv p1, iv (1 : Int32), iv (1 : Int32), rv (fC p1 w0 w1 w2 w3), rv (fB (p1 >>> ((2 : Int32) &&& 31)) w4 w5 w6 w7), rv wM, iv (fA wM (bC p1) wM wD), iv (fA wM (bD (p1 >>> ((2 : Int32) &&& 31))) wM wD), iv (1 : Int32), iv (1 : Int32)] [(.int (1 : Int32))] _
      exact own_retI X23 hx hlk (t := .boolean) Bd.returns rfl (by simp) (Jvm.hb hby at_107) e23 ⟨rfl, N23⟩ (by decide) (by decide)
set_option maxRecDepth 65536 in
set_option maxHeartbeats 40000000 in
theorem comes_1 {Post : Tables → Env → Array Value → State → Outcome → State → Prop} (hpost : ∀ tb e args s v u, (limb_1_1.after args s (.returned v) u = true ∧ limb_1_2.after args s (.returned v) u = true ∧ True) → FrameEnd s (.returned v) u (Jvm.fieldLocs frame_1_writes args s ++ Jvm.arrayLocs frame_1_arrays args s ++ Jvm.staticLocs frame_1_statics s) 0 0 → Post tb e args s (.returned v) u) :
    ArmFor flags0 classFile x code maxLocals ret World_1 tables_1 room_1 Calls_1 rest_1 Pre_1 Post := by
  intro l hfl _ _ p e ha hc hk s m args below hf hA hF happ hP
  obtain ⟨hcalls, hrest, hpre⟩ := hP
  obtain ⟨-, -, -, hnamed, -, -, -, hat⟩ := (Spec.applies_iff hf).mp happ
  obtain ⟨hg, hn⟩ := and_e (Cond.before_iff.mp (show (Jvm.Cond.and given_1 narrow_1).before args s = true from hpre))
  obtain ⟨g1, g2⟩ := and_e hg
  obtain ⟨g3, g4⟩ := and_e g2
  obtain ⟨w0, w1, rfl⟩ : ∃ w0 w1 : Value, args = #[w0, w1] := by
    have hs : args.size = 2 := by simpa [Cond.value, given_1] using g1
    obtain ⟨L⟩ := args
    match L, hs with
    | [w0, w1], _ => exact ⟨w0, w1, rfl⟩
  have hw := fun d (hd : d ∈ tables_1) => atoms_spec (ws := Jvm.Cond.code x code maxLocals ret :: tables_1) hat d (List.mem_cons_of_mem _ hd)
  have hfit : Fit s := fun {y c} hc i hi => by
    obtain ⟨ha, rfl⟩ := Array.getElem?_eq_some_iff.mp hc
    have q := List.all_eq_true.mp ((Array.all_eq_true_iff_forall_mem.mp hF) _ (Array.getElem_mem ha)) i (List.mem_range.mpr hi)
    simpa [Array.getElem?_eq_getElem hi] using q
  obtain ⟨hsets, hown0⟩ := atoms_of _ (rest_1_c_eq ▸ (show rest_1_c.before _ s = true from hrest))
  have hr0 := Cond.before_iff.mp hown0
  obtain ⟨i0, ei0⟩ := is_v g3
  obtain rfl : w0 = (.int i0) := Option.some.inj ei0
  obtain ⟨i1, ei1⟩ := is_v g4
  obtain rfl : w1 = (.int i1) := Option.some.inj ei1
  obtain ⟨g1001, g1002⟩ := and_e hn
  obtain ⟨g1003, g1004⟩ := and_e g1002
  obtain ⟨g1005, g1006⟩ := and_e g1004
  obtain ⟨g1007, g1008⟩ := and_e g1006
  obtain ⟨g1009, g1010⟩ := and_e g1008
  obtain ⟨g1011, g1012⟩ := and_e g1010
  obtain ⟨g1013, g1014⟩ := and_e g1012
  obtain ⟨g1015, g1016⟩ := and_e g1014
  obtain ⟨g1017, g1018⟩ := and_e g1016
  obtain ⟨g1019, g1020⟩ := and_e g1018
  obtain ⟨g1021, g1022⟩ := and_e g1020
  obtain ⟨g1023, g1024⟩ := and_e g1022
  obtain ⟨g1025, g1026⟩ := and_e g1024
  obtain ⟨g1027, g1028⟩ := and_e g1026
  obtain ⟨g1029, g1030⟩ := and_e g1028
  obtain ⟨g1031, g1032⟩ := and_e g1030
  obtain ⟨g1033, g1034⟩ := and_e g1032
  obtain ⟨g1035, g1036⟩ := and_e g1034
  obtain ⟨g1037, g1038⟩ := and_e g1036
  obtain ⟨g1039, g1040⟩ := and_e g1038
  obtain ⟨g1041, g1042⟩ := and_e g1040
  obtain ⟨g1043, g1044⟩ := and_e g1042
  obtain ⟨g1045, g1046⟩ := and_e g1044
  obtain ⟨g1047, g1048⟩ := and_e g1046
  obtain ⟨g1049, g1050⟩ := and_e g1048
  obtain ⟨g1051, g1052⟩ := and_e g1050
  obtain ⟨g1053, g1054⟩ := and_e g1052
  obtain ⟨g1055, g1056⟩ := and_e g1054
  obtain ⟨g1057, g1058⟩ := and_e g1056
  obtain ⟨g1059, g1060⟩ := and_e g1058
  obtain ⟨g1061, g1062⟩ := and_e g1060
  obtain ⟨g1063, g1064⟩ := and_e g1062
  obtain ⟨g1065, g1066⟩ := and_e g1064
  obtain ⟨g1067, g1068⟩ := and_e g1066
  obtain ⟨g1069, g1070⟩ := and_e g1068
  obtain ⟨g1071, g1072⟩ := and_e g1070
  obtain ⟨g1073, g1074⟩ := and_e g1072
  obtain ⟨g1075, g1076⟩ := and_e g1074
  obtain ⟨g1077, g1078⟩ := and_e g1076
  obtain ⟨g1079, g1080⟩ := and_e g1078
  obtain ⟨g1081, g1082⟩ := and_e g1080
  obtain ⟨g1083, g1084⟩ := and_e g1082
  obtain ⟨g1085, g1086⟩ := and_e g1084
  obtain ⟨g1087, g1088⟩ := and_e g1086
  obtain ⟨g1089, g1090⟩ := and_e g1088
  obtain ⟨g1091, g1092⟩ := and_e g1090
  obtain ⟨g1093, g1094⟩ := and_e g1092
  obtain ⟨g1095, g1096⟩ := and_e g1094
  obtain ⟨g1097, g1098⟩ := and_e g1096
  obtain ⟨g1099, g1100⟩ := and_e g1098
  obtain ⟨g1101, g1102⟩ := and_e g1100
  obtain ⟨g1103, g1104⟩ := and_e g1102
  obtain ⟨g1105, g1106⟩ := and_e g1104
  obtain ⟨g1107, g1108⟩ := and_e g1106
  obtain ⟨g1109, g1110⟩ := and_e g1108
  obtain ⟨g1111, g1112⟩ := and_e g1110
  obtain ⟨g1113, g1114⟩ := and_e g1112
  obtain ⟨g1115, g1116⟩ := and_e g1114
  obtain ⟨g1117, g1118⟩ := and_e g1116
  obtain ⟨g1119, g1120⟩ := and_e g1118
  obtain ⟨g1121, g1122⟩ := and_e g1120
  obtain ⟨a_w3, ev_w3⟩ := exa_v g1001
  have E_w3 : Exa s s.heap a_w3 "com/example/outlay/outlay/nacha/TransactionCode" := Exa.start ev_w3 g1001
  have S_w3 : Sta s s.heap "com/example/outlay/outlay/nacha/TransactionCode" "SAVINGS_CREDIT" "Lcom/example/outlay/outlay/nacha/TransactionCode;" (.ref a_w3) := Sta.start ev_w3 (Or.inr ⟨(hw _ (List.mem_of_getElem? (i := 5) rfl)), (hw _ (List.mem_of_getElem? (i := 6) rfl))⟩)
  obtain ⟨a_w4, ev_w4⟩ := exa_v g1003
  have E_w4 : Exa s s.heap a_w4 "com/example/outlay/outlay/nacha/TransactionCode" := Exa.start ev_w4 g1003
  have S_w4 : Sta s s.heap "com/example/outlay/outlay/nacha/TransactionCode" "CHECKING_DEBIT_RETURN" "Lcom/example/outlay/outlay/nacha/TransactionCode;" (.ref a_w4) := Sta.start ev_w4 (Or.inr ⟨(hw _ (List.mem_of_getElem? (i := 5) rfl)), (hw _ (List.mem_of_getElem? (i := 11) rfl))⟩)
  obtain ⟨a_wC, ev_wC⟩ := exa_v g1005
  have E_wC : Exa s s.heap a_wC "com/example/outlay/outlay/nacha/ServiceClass" := Exa.start ev_wC g1005
  have S_wC : Sta s s.heap "com/example/outlay/outlay/nacha/ServiceClass" "CREDITS" "Lcom/example/outlay/outlay/nacha/ServiceClass;" (.ref a_wC) := Sta.start ev_wC (Or.inr ⟨(hw _ (List.mem_of_getElem? (i := 14) rfl)), (hw _ (List.mem_of_getElem? (i := 17) rfl))⟩)
  obtain ⟨a_wM, ev_wM⟩ := exa_v g1007
  have E_wM : Exa s s.heap a_wM "com/example/outlay/outlay/nacha/ServiceClass" := Exa.start ev_wM g1007
  have S_wM : Sta s s.heap "com/example/outlay/outlay/nacha/ServiceClass" "MIXED" "Lcom/example/outlay/outlay/nacha/ServiceClass;" (.ref a_wM) := Sta.start ev_wM (Or.inr ⟨(hw _ (List.mem_of_getElem? (i := 14) rfl)), (hw _ (List.mem_of_getElem? (i := 24) rfl))⟩)
  have F_wC_ordinal : Fld s s.heap a_wC "java/lang/Enum" "ordinal" "I" (.int (1 : Int32)) := Fld.start ((fld_at ev_wC).symm.trans (own_eqI g1009))
  have F_wM_ordinal : Fld s s.heap a_wM "java/lang/Enum" "ordinal" "I" (.int (0 : Int32)) := Fld.start ((fld_at ev_wM).symm.trans (own_eqI g1011))
  obtain ⟨a_w3_code, ev_w3_code⟩ := exa_v g1013
  have E_w3_code : Exa s s.heap a_w3_code "java/lang/String" := Exa.start ev_w3_code g1013
  have F_w3_code : Fld s s.heap a_w3 "com/example/outlay/outlay/nacha/TransactionCode" "code" "Ljava/lang/String;" (.ref a_w3_code) := Fld.start ((fld_at ev_w3).symm.trans ev_w3_code)
  have F_w3_code_coder : Fld s s.heap a_w3_code "java/lang/String" "coder" "B" (.int (0 : Int32)) := Fld.start ((fld_at ev_w3_code).symm.trans (own_eqI g1015))
  obtain ⟨a_w3_code_value, ev_w3_code_value⟩ := arr_v g1017
  obtain ⟨c_w3_code_value, A_w3_code_value⟩ := Arr.start ev_w3_code_value g1017
  have F_w3_code_value : Fld s s.heap a_w3_code "java/lang/String" "value" "[B" (.ref a_w3_code_value) := Fld.start ((fld_at ev_w3_code).symm.trans ev_w3_code_value)
  have len_w3_code_value := own_eqI g1019
  have el_w3_code_value_1 := elem_in (own_eqI g1021) ev_w3_code_value (Term.int_eval (1)) A_w3_code_value.1
  obtain ⟨a_wD, ev_wD⟩ := exa_v g1023
  have E_wD : Exa s s.heap a_wD "com/example/outlay/outlay/nacha/ServiceClass" := Exa.start ev_wD g1023
  have S_wD : Sta s s.heap "com/example/outlay/outlay/nacha/ServiceClass" "DEBITS" "Lcom/example/outlay/outlay/nacha/ServiceClass;" (.ref a_wD) := Sta.start ev_wD (Or.inr ⟨(hw _ (List.mem_of_getElem? (i := 14) rfl)), (hw _ (List.mem_of_getElem? (i := 61) rfl))⟩)
  have F_wD_ordinal : Fld s s.heap a_wD "java/lang/Enum" "ordinal" "I" (.int (2 : Int32)) := Fld.start ((fld_at ev_wD).symm.trans (own_eqI g1025))
  obtain ⟨a_w4_code, ev_w4_code⟩ := exa_v g1027
  have E_w4_code : Exa s s.heap a_w4_code "java/lang/String" := Exa.start ev_w4_code g1027
  have F_w4_code : Fld s s.heap a_w4 "com/example/outlay/outlay/nacha/TransactionCode" "code" "Ljava/lang/String;" (.ref a_w4_code) := Fld.start ((fld_at ev_w4).symm.trans ev_w4_code)
  have F_w4_code_coder : Fld s s.heap a_w4_code "java/lang/String" "coder" "B" (.int (0 : Int32)) := Fld.start ((fld_at ev_w4_code).symm.trans (own_eqI g1029))
  obtain ⟨a_w4_code_value, ev_w4_code_value⟩ := arr_v g1031
  obtain ⟨c_w4_code_value, A_w4_code_value⟩ := Arr.start ev_w4_code_value g1031
  have F_w4_code_value : Fld s s.heap a_w4_code "java/lang/String" "value" "[B" (.ref a_w4_code_value) := Fld.start ((fld_at ev_w4_code).symm.trans ev_w4_code_value)
  have len_w4_code_value := own_eqI g1033
  have el_w4_code_value_1 := elem_in (own_eqI g1035) ev_w4_code_value (Term.int_eval (1)) A_w4_code_value.1
  obtain ⟨a_w1, ev_w1⟩ := exa_v g1037
  have E_w1 : Exa s s.heap a_w1 "com/example/outlay/outlay/nacha/TransactionCode" := Exa.start ev_w1 g1037
  have S_w1 : Sta s s.heap "com/example/outlay/outlay/nacha/TransactionCode" "CHECKING_CREDIT" "Lcom/example/outlay/outlay/nacha/TransactionCode;" (.ref a_w1) := Sta.start ev_w1 (Or.inr ⟨(hw _ (List.mem_of_getElem? (i := 5) rfl)), (hw _ (List.mem_of_getElem? (i := 63) rfl))⟩)
  obtain ⟨a_w1_code, ev_w1_code⟩ := exa_v g1039
  have E_w1_code : Exa s s.heap a_w1_code "java/lang/String" := Exa.start ev_w1_code g1039
  have F_w1_code : Fld s s.heap a_w1 "com/example/outlay/outlay/nacha/TransactionCode" "code" "Ljava/lang/String;" (.ref a_w1_code) := Fld.start ((fld_at ev_w1).symm.trans ev_w1_code)
  have F_w1_code_coder : Fld s s.heap a_w1_code "java/lang/String" "coder" "B" (.int (0 : Int32)) := Fld.start ((fld_at ev_w1_code).symm.trans (own_eqI g1041))
  obtain ⟨a_w1_code_value, ev_w1_code_value⟩ := arr_v g1043
  obtain ⟨c_w1_code_value, A_w1_code_value⟩ := Arr.start ev_w1_code_value g1043
  have F_w1_code_value : Fld s s.heap a_w1_code "java/lang/String" "value" "[B" (.ref a_w1_code_value) := Fld.start ((fld_at ev_w1_code).symm.trans ev_w1_code_value)
  have len_w1_code_value := own_eqI g1045
  have el_w1_code_value_1 := elem_in (own_eqI g1047) ev_w1_code_value (Term.int_eval (1)) A_w1_code_value.1
  obtain ⟨a_w0, ev_w0⟩ := exa_v g1049
  have E_w0 : Exa s s.heap a_w0 "com/example/outlay/outlay/nacha/TransactionCode" := Exa.start ev_w0 g1049
  have S_w0 : Sta s s.heap "com/example/outlay/outlay/nacha/TransactionCode" "CHECKING_CREDIT_RETURN" "Lcom/example/outlay/outlay/nacha/TransactionCode;" (.ref a_w0) := Sta.start ev_w0 (Or.inr ⟨(hw _ (List.mem_of_getElem? (i := 5) rfl)), (hw _ (List.mem_of_getElem? (i := 65) rfl))⟩)
  obtain ⟨a_w5, ev_w5⟩ := exa_v g1051
  have E_w5 : Exa s s.heap a_w5 "com/example/outlay/outlay/nacha/TransactionCode" := Exa.start ev_w5 g1051
  have S_w5 : Sta s s.heap "com/example/outlay/outlay/nacha/TransactionCode" "CHECKING_DEBIT" "Lcom/example/outlay/outlay/nacha/TransactionCode;" (.ref a_w5) := Sta.start ev_w5 (Or.inr ⟨(hw _ (List.mem_of_getElem? (i := 5) rfl)), (hw _ (List.mem_of_getElem? (i := 67) rfl))⟩)
  obtain ⟨a_w0_code, ev_w0_code⟩ := exa_v g1053
  have E_w0_code : Exa s s.heap a_w0_code "java/lang/String" := Exa.start ev_w0_code g1053
  have F_w0_code : Fld s s.heap a_w0 "com/example/outlay/outlay/nacha/TransactionCode" "code" "Ljava/lang/String;" (.ref a_w0_code) := Fld.start ((fld_at ev_w0).symm.trans ev_w0_code)
  have F_w0_code_coder : Fld s s.heap a_w0_code "java/lang/String" "coder" "B" (.int (0 : Int32)) := Fld.start ((fld_at ev_w0_code).symm.trans (own_eqI g1055))
  obtain ⟨a_w0_code_value, ev_w0_code_value⟩ := arr_v g1057
  obtain ⟨c_w0_code_value, A_w0_code_value⟩ := Arr.start ev_w0_code_value g1057
  have F_w0_code_value : Fld s s.heap a_w0_code "java/lang/String" "value" "[B" (.ref a_w0_code_value) := Fld.start ((fld_at ev_w0_code).symm.trans ev_w0_code_value)
  have len_w0_code_value := own_eqI g1059
  have el_w0_code_value_1 := elem_in (own_eqI g1061) ev_w0_code_value (Term.int_eval (1)) A_w0_code_value.1
  obtain ⟨a_w5_code, ev_w5_code⟩ := exa_v g1063
  have E_w5_code : Exa s s.heap a_w5_code "java/lang/String" := Exa.start ev_w5_code g1063
  have F_w5_code : Fld s s.heap a_w5 "com/example/outlay/outlay/nacha/TransactionCode" "code" "Ljava/lang/String;" (.ref a_w5_code) := Fld.start ((fld_at ev_w5).symm.trans ev_w5_code)
  have F_w5_code_coder : Fld s s.heap a_w5_code "java/lang/String" "coder" "B" (.int (0 : Int32)) := Fld.start ((fld_at ev_w5_code).symm.trans (own_eqI g1065))
  obtain ⟨a_w5_code_value, ev_w5_code_value⟩ := arr_v g1067
  obtain ⟨c_w5_code_value, A_w5_code_value⟩ := Arr.start ev_w5_code_value g1067
  have F_w5_code_value : Fld s s.heap a_w5_code "java/lang/String" "value" "[B" (.ref a_w5_code_value) := Fld.start ((fld_at ev_w5_code).symm.trans ev_w5_code_value)
  have len_w5_code_value := own_eqI g1069
  have el_w5_code_value_1 := elem_in (own_eqI g1071) ev_w5_code_value (Term.int_eval (1)) A_w5_code_value.1
  obtain ⟨a_w7, ev_w7⟩ := exa_v g1073
  have E_w7 : Exa s s.heap a_w7 "com/example/outlay/outlay/nacha/TransactionCode" := Exa.start ev_w7 g1073
  have S_w7 : Sta s s.heap "com/example/outlay/outlay/nacha/TransactionCode" "SAVINGS_DEBIT" "Lcom/example/outlay/outlay/nacha/TransactionCode;" (.ref a_w7) := Sta.start ev_w7 (Or.inr ⟨(hw _ (List.mem_of_getElem? (i := 5) rfl)), (hw _ (List.mem_of_getElem? (i := 69) rfl))⟩)
  obtain ⟨a_w7_code, ev_w7_code⟩ := exa_v g1075
  have E_w7_code : Exa s s.heap a_w7_code "java/lang/String" := Exa.start ev_w7_code g1075
  have F_w7_code : Fld s s.heap a_w7 "com/example/outlay/outlay/nacha/TransactionCode" "code" "Ljava/lang/String;" (.ref a_w7_code) := Fld.start ((fld_at ev_w7).symm.trans ev_w7_code)
  have F_w7_code_coder : Fld s s.heap a_w7_code "java/lang/String" "coder" "B" (.int (0 : Int32)) := Fld.start ((fld_at ev_w7_code).symm.trans (own_eqI g1077))
  obtain ⟨a_w7_code_value, ev_w7_code_value⟩ := arr_v g1079
  obtain ⟨c_w7_code_value, A_w7_code_value⟩ := Arr.start ev_w7_code_value g1079
  have F_w7_code_value : Fld s s.heap a_w7_code "java/lang/String" "value" "[B" (.ref a_w7_code_value) := Fld.start ((fld_at ev_w7_code).symm.trans ev_w7_code_value)
  have len_w7_code_value := own_eqI g1081
  have el_w7_code_value_1 := elem_in (own_eqI g1083) ev_w7_code_value (Term.int_eval (1)) A_w7_code_value.1
  obtain ⟨a_w2, ev_w2⟩ := exa_v g1085
  have E_w2 : Exa s s.heap a_w2 "com/example/outlay/outlay/nacha/TransactionCode" := Exa.start ev_w2 g1085
  have S_w2 : Sta s s.heap "com/example/outlay/outlay/nacha/TransactionCode" "SAVINGS_CREDIT_RETURN" "Lcom/example/outlay/outlay/nacha/TransactionCode;" (.ref a_w2) := Sta.start ev_w2 (Or.inr ⟨(hw _ (List.mem_of_getElem? (i := 5) rfl)), (hw _ (List.mem_of_getElem? (i := 71) rfl))⟩)
  obtain ⟨a_w2_code, ev_w2_code⟩ := exa_v g1087
  have E_w2_code : Exa s s.heap a_w2_code "java/lang/String" := Exa.start ev_w2_code g1087
  have F_w2_code : Fld s s.heap a_w2 "com/example/outlay/outlay/nacha/TransactionCode" "code" "Ljava/lang/String;" (.ref a_w2_code) := Fld.start ((fld_at ev_w2).symm.trans ev_w2_code)
  have F_w2_code_coder : Fld s s.heap a_w2_code "java/lang/String" "coder" "B" (.int (0 : Int32)) := Fld.start ((fld_at ev_w2_code).symm.trans (own_eqI g1089))
  obtain ⟨a_w2_code_value, ev_w2_code_value⟩ := arr_v g1091
  obtain ⟨c_w2_code_value, A_w2_code_value⟩ := Arr.start ev_w2_code_value g1091
  have F_w2_code_value : Fld s s.heap a_w2_code "java/lang/String" "value" "[B" (.ref a_w2_code_value) := Fld.start ((fld_at ev_w2_code).symm.trans ev_w2_code_value)
  have len_w2_code_value := own_eqI g1093
  have el_w2_code_value_1 := elem_in (own_eqI g1095) ev_w2_code_value (Term.int_eval (1)) A_w2_code_value.1
  obtain ⟨a_w6, ev_w6⟩ := exa_v g1097
  have E_w6 : Exa s s.heap a_w6 "com/example/outlay/outlay/nacha/TransactionCode" := Exa.start ev_w6 g1097
  have S_w6 : Sta s s.heap "com/example/outlay/outlay/nacha/TransactionCode" "SAVINGS_DEBIT_RETURN" "Lcom/example/outlay/outlay/nacha/TransactionCode;" (.ref a_w6) := Sta.start ev_w6 (Or.inr ⟨(hw _ (List.mem_of_getElem? (i := 5) rfl)), (hw _ (List.mem_of_getElem? (i := 73) rfl))⟩)
  obtain ⟨a_w6_code, ev_w6_code⟩ := exa_v g1099
  have E_w6_code : Exa s s.heap a_w6_code "java/lang/String" := Exa.start ev_w6_code g1099
  have F_w6_code : Fld s s.heap a_w6 "com/example/outlay/outlay/nacha/TransactionCode" "code" "Ljava/lang/String;" (.ref a_w6_code) := Fld.start ((fld_at ev_w6).symm.trans ev_w6_code)
  have F_w6_code_coder : Fld s s.heap a_w6_code "java/lang/String" "coder" "B" (.int (0 : Int32)) := Fld.start ((fld_at ev_w6_code).symm.trans (own_eqI g1101))
  obtain ⟨a_w6_code_value, ev_w6_code_value⟩ := arr_v g1103
  obtain ⟨c_w6_code_value, A_w6_code_value⟩ := Arr.start ev_w6_code_value g1103
  have F_w6_code_value : Fld s s.heap a_w6_code "java/lang/String" "value" "[B" (.ref a_w6_code_value) := Fld.start ((fld_at ev_w6_code).symm.trans ev_w6_code_value)
  have len_w6_code_value := own_eqI g1105
  have el_w6_code_value_1 := elem_in (own_eqI g1107) ev_w6_code_value (Term.int_eval (1)) A_w6_code_value.1
  have el_w3_code_value_0 := elem_in (own_eqI g1109) ev_w3_code_value (Term.int_eval (0)) A_w3_code_value.1
  have el_w4_code_value_0 := elem_in (own_eqI g1111) ev_w4_code_value (Term.int_eval (0)) A_w4_code_value.1
  have el_w1_code_value_0 := elem_in (own_eqI g1113) ev_w1_code_value (Term.int_eval (0)) A_w1_code_value.1
  have el_w0_code_value_0 := elem_in (own_eqI g1115) ev_w0_code_value (Term.int_eval (0)) A_w0_code_value.1
  have el_w5_code_value_0 := elem_in (own_eqI g1117) ev_w5_code_value (Term.int_eval (0)) A_w5_code_value.1
  have el_w7_code_value_0 := elem_in (own_eqI g1119) ev_w7_code_value (Term.int_eval (0)) A_w7_code_value.1
  have el_w2_code_value_0 := elem_in (own_eqI g1121) ev_w2_code_value (Term.int_eval (0)) A_w2_code_value.1
  have el_w6_code_value_0 := elem_in (own_eqI g1122) ev_w6_code_value (Term.int_eval (0)) A_w6_code_value.1
  obtain ⟨cs, ev_cs⟩ := is_v (Cond.before_iff.mp (hsets _ (List.mem_of_getElem? (i := 1) rfl)))
  have S_c : Sta s s.heap "java/lang/String" "COMPACT_STRINGS" "Z" (.int cs) := Sta.start ev_cs (Or.inl (hsets _ (List.mem_of_getElem? (i := 0) rfl)))
  have hcs : ¬ cs = 0 := fun q => by
    have u := not_v (Cond.before_iff.mp (hsets _ (List.mem_of_getElem? (i := 2) rfl)))
    rw [q] at ev_cs
    exact own_neq0 u ev_cs
  obtain ⟨fw, ev_fw, hv_fw⟩ := isR_v (Cond.before_iff.mp (hsets _ (List.mem_of_getElem? (i := 8) rfl)))
  have S_f : Sta s s.heap "jdk/internal/util/Preconditions" "SIOOBE_FORMATTER" "Ljava/util/function/BiFunction;" fw := Sta.start ev_fw (Or.inl (hsets _ (List.mem_of_getElem? (i := 7) rfl)))
  have Hw0 : TC s s.heap a_w0 49 := ⟨E_w0, _, _, _, F_w0_code, E_w0_code, F_w0_code_coder, F_w0_code_value, own_af hfit A_w0_code_value (own_lenz len_w0_code_value ev_w0_code_value A_w0_code_value rfl), by show (c_w0_code_value.slots[1]?).getD .null = _; rw [show c_w0_code_value.slots[1]? = _ from el_w0_code_value_1.2]; rfl⟩
  have Hw1 : TC s s.heap a_w1 50 := ⟨E_w1, _, _, _, F_w1_code, E_w1_code, F_w1_code_coder, F_w1_code_value, own_af hfit A_w1_code_value (own_lenz len_w1_code_value ev_w1_code_value A_w1_code_value rfl), by show (c_w1_code_value.slots[1]?).getD .null = _; rw [show c_w1_code_value.slots[1]? = _ from el_w1_code_value_1.2]; rfl⟩
  have Hw2 : TC s s.heap a_w2 49 := ⟨E_w2, _, _, _, F_w2_code, E_w2_code, F_w2_code_coder, F_w2_code_value, own_af hfit A_w2_code_value (own_lenz len_w2_code_value ev_w2_code_value A_w2_code_value rfl), by show (c_w2_code_value.slots[1]?).getD .null = _; rw [show c_w2_code_value.slots[1]? = _ from el_w2_code_value_1.2]; rfl⟩
  have Hw3 : TC s s.heap a_w3 50 := ⟨E_w3, _, _, _, F_w3_code, E_w3_code, F_w3_code_coder, F_w3_code_value, own_af hfit A_w3_code_value (own_lenz len_w3_code_value ev_w3_code_value A_w3_code_value rfl), by show (c_w3_code_value.slots[1]?).getD .null = _; rw [show c_w3_code_value.slots[1]? = _ from el_w3_code_value_1.2]; rfl⟩
  have Hw4 : TC s s.heap a_w4 54 := ⟨E_w4, _, _, _, F_w4_code, E_w4_code, F_w4_code_coder, F_w4_code_value, own_af hfit A_w4_code_value (own_lenz len_w4_code_value ev_w4_code_value A_w4_code_value rfl), by show (c_w4_code_value.slots[1]?).getD .null = _; rw [show c_w4_code_value.slots[1]? = _ from el_w4_code_value_1.2]; rfl⟩
  have Hw5 : TC s s.heap a_w5 55 := ⟨E_w5, _, _, _, F_w5_code, E_w5_code, F_w5_code_coder, F_w5_code_value, own_af hfit A_w5_code_value (own_lenz len_w5_code_value ev_w5_code_value A_w5_code_value rfl), by show (c_w5_code_value.slots[1]?).getD .null = _; rw [show c_w5_code_value.slots[1]? = _ from el_w5_code_value_1.2]; rfl⟩
  have Hw6 : TC s s.heap a_w6 54 := ⟨E_w6, _, _, _, F_w6_code, E_w6_code, F_w6_code_coder, F_w6_code_value, own_af hfit A_w6_code_value (own_lenz len_w6_code_value ev_w6_code_value A_w6_code_value rfl), by show (c_w6_code_value.slots[1]?).getD .null = _; rw [show c_w6_code_value.slots[1]? = _ from el_w6_code_value_1.2]; rfl⟩
  have Hw7 : TC s s.heap a_w7 55 := ⟨E_w7, _, _, _, F_w7_code, E_w7_code, F_w7_code_coder, F_w7_code_value, own_af hfit A_w7_code_value (own_lenz len_w7_code_value ev_w7_code_value A_w7_code_value rfl), by show (c_w7_code_value.slots[1]?).getD .null = _; rw [show c_w7_code_value.slots[1]? = _ from el_w7_code_value_1.2]; rfl⟩
  have n_DM : a_wD ≠ a_wM := Fld.ne F_wD_ordinal F_wM_ordinal (by decide)
  have n_CM : a_wC ≠ a_wM := Fld.ne F_wC_ordinal F_wM_ordinal (by decide)
  have n_CD : a_wC ≠ a_wD := Fld.ne F_wC_ordinal F_wD_ordinal (by decide)
  obtain ⟨n, o, h1, h2, h3, _, L, rfl, ⟨rfl, N⟩, hq⟩ := rm0 l s _ hw tables_1 i0 i1 a_w0 a_w1 a_w2 a_w3 a_w4 a_w5 a_w6 a_w7 a_wM a_wC a_wD cs fw s.heap s.heap.size (Nat.le_refl _) S_w0 S_w1 S_w2 S_w3 S_w4 S_w5 S_w6 S_w7 S_wM S_wC S_wD Hw0 Hw1 Hw2 Hw3 Hw4 Hw5 Hw6 Hw7 E_wM E_wC E_wD n_DM n_CM n_CD S_c hcs S_f hv_fw p e ha hc hk s m _ below hf ((Spec.applies_iff_loose hf).mp happ).1 ⟨rfl, State.Warmed39.refl s, rfl⟩ trivial
  refine ⟨n, _, h1, h2, h3, hpost _ _ _ _ _ _ ⟨Cond.after_iff.mpr rfl, Cond.after_iff.mpr (eq_i res_at (Term.int_eval (1)) rfl), trivial⟩ ⟨hq.1, hq.2.1, (hq.2.2.sift fun y hy => Or.inr (N y hy)).mono (by decide) (by decide)⟩⟩
theorem main_1_1 : Claimed_1_1 := comes_1 fun _ _ _ _ _ _ h hF => ⟨h.1, hF⟩
theorem main_1_2 : Claimed_1_2 := comes_1 fun _ _ _ _ _ _ h hF => ⟨h.2.1, hF⟩
end Jvm.Pilot.@@N@@
namespace Jvm.Pilot.@@N@@
open Jvm Jvm.ClassFile Sem Op Lib Jvm.Free Jvm.Stand Jvm.Pilot.@@N@@.Jvm.D
/-! MADE BY PROGRAM (witnessworld.py) out of the Statement's table words and the real class files: 19 classes; the members and pool entries that the words name. The judged class is class 1, her method 3. -/
namespace start1
open Jvm.ClassFile
def u (s : String) : CpInfo := .utf8 (stringToUtf16 s)
/-- a pool by its gaps: so many unusable entries, then the entry; so many at the end -/
def gap : Nat → List CpInfo → List CpInfo
  | 0, r => r
  | n + 1, r => .unusable :: gap n r
def poolList (es : List (Nat × CpInfo)) (last : Nat) : List CpInfo := es.foldr (fun e r => gap e.1 (e.2 :: r)) (gap last [])
def pool (es : List (Nat × CpInfo)) (last : Nat) : Array CpInfo := ⟨poolList es last⟩
def fileOf (pool : Array CpInfo) (this : Nat) (attrs : Array Attribute := #[]) (ms : Array MethodInfo := #[]) (fl : Nat := 33) (sup : Nat := 0) (ifs : Array Nat := #[]) (fds : Array FieldInfo := #[]) : ClassFile where
  minorVersion := 0
  majorVersion := 65
  constantPool := pool
  accessFlags := fl
  thisClass := this
  superClass := sup
  interfaces := ifs
  fields := fds
  methods := ms
  attributes := attrs
def plain (name : String) (sup : Option ClassId) : Class where
  name := name
  kind := .ordinary
  loader := none
  accessFlags := 33
  super := sup
  interfaces := #[]
  cf := none
  fields := #[]
  methods := #[]
  instanceTypes := #[]
  staticTypes := #[]
  resolved := #[]
  callSites := []
  init := .initialized
  statics := none
  mirror := none

def pool0 : Array CpInfo := pool [(5, u "<init>"), (0, u "()V"), (1, .class_ 10), (1, u "java/lang/Object")] 113

def k0m0 : Method := { name := "<init>", desc := "()V", sig := { parameters := [], returnType := none }, accessFlags := 1, code := none }
/-- java/lang/Object -/
def k0 : Class := { plain "java/lang/Object" none with
  accessFlags := 33
  interfaces := #[]
  cf := some (fileOf pool0 8 #[] #[{ accessFlags := 1, nameIndex := 5, descriptorIndex := 6, attributes := #[] }] 33 0 #[] #[])
  fields := #[]
  methods := #[k0m0]
  instanceTypes := #[]
  staticTypes := #[]
  resolved := Array.replicate 124 none
  statics := none }

def pool1 : Array CpInfo := pool [(2, .class_ 4), (1, u "java/lang/Object"), (0, u "<init>"), (0, u "()V"), (0, .fieldref 8 9), (0, .class_ 10), (0, .nameAndType 11 12), (0, u "com/example/outlay/outlay/nacha/TransactionCode"), (0, u "CHECKING_CREDIT_RETURN"), (0, u "Lcom/example/outlay/outlay/nacha/TransactionCode;"), (0, .fieldref 8 14), (0, .nameAndType 15 12), (0, u "CHECKING_CREDIT"), (0, .fieldref 8 17), (0, .nameAndType 18 12), (0, u "SAVINGS_CREDIT_RETURN"), (0, .fieldref 8 20), (0, .nameAndType 21 12), (0, u "SAVINGS_CREDIT"), (0, .fieldref 8 23), (0, .nameAndType 24 12), (0, u "CHECKING_DEBIT_RETURN"), (0, .fieldref 8 26), (0, .nameAndType 27 12), (0, u "CHECKING_DEBIT"), (0, .fieldref 8 29), (0, .nameAndType 30 12), (0, u "SAVINGS_DEBIT_RETURN"), (0, .fieldref 8 32), (0, .nameAndType 33 12), (0, u "SAVINGS_DEBIT"), (0, .methodref 35 36), (0, .class_ 37), (0, .nameAndType 38 39), (0, u "com/example/outlay/outlay/nacha/ServiceClassHoldingPinLaw"), (0, u "creditCode"), (0, u "(I)Lcom/example/outlay/outlay/nacha/TransactionCode;"), (0, .methodref 35 41), (0, .nameAndType 42 39), (0, u "debitCode"), (0, .methodref 44 45), (0, .class_ 46), (0, .nameAndType 47 48), (0, u "com/example/outlay/outlay/nacha/ServiceClass"), (0, u "holding"), (0, u "(ZZ)Lcom/example/outlay/outlay/nacha/ServiceClass;"), (0, .methodref 44 50), (0, .nameAndType 51 52), (0, u "allows"), (0, u "(Lcom/example/outlay/outlay/nacha/TransactionCode;)Z"), (3, u "law"), (0, u "(II)Z")] 2

def k1m0 : Method := { name := "<init>", desc := "()V", sig := { parameters := [], returnType := none }, accessFlags := 2, code := none }
def k1c1 : Code := { maxStack := 2, maxLocals := 2, code := method_2_code, exceptionTable := #[], attributes := #[] }
def k1m1 : Method := { name := "creditCode", desc := "(I)Lcom/example/outlay/outlay/nacha/TransactionCode;", sig := { parameters := [.int], returnType := some (.object "com/example/outlay/outlay/nacha/TransactionCode") }, accessFlags := 10, code := some k1c1 }
def k1c2 : Code := { maxStack := 2, maxLocals := 2, code := method_3_code, exceptionTable := #[], attributes := #[] }
def k1m2 : Method := { name := "debitCode", desc := "(I)Lcom/example/outlay/outlay/nacha/TransactionCode;", sig := { parameters := [.int], returnType := some (.object "com/example/outlay/outlay/nacha/TransactionCode") }, accessFlags := 10, code := some k1c2 }
def k1c3 : Code := { maxStack := 2, maxLocals := 11, code := code, exceptionTable := #[], attributes := #[] }
def k1m3 : Method := { name := "law", desc := "(II)Z", sig := { parameters := [.int, .int], returnType := some .boolean }, accessFlags := 9, code := some k1c3 }
/-- com/example/outlay/outlay/nacha/ServiceClassHoldingPinLaw -/
def k1 : Class := { plain "com/example/outlay/outlay/nacha/ServiceClassHoldingPinLaw" (some 0) with
  accessFlags := 49
  interfaces := #[]
  cf := some (fileOf pool1 35 #[] #[{ accessFlags := 2, nameIndex := 5, descriptorIndex := 6, attributes := #[] }, { accessFlags := 10, nameIndex := 38, descriptorIndex := 39, attributes := #[] }, { accessFlags := 10, nameIndex := 42, descriptorIndex := 39, attributes := #[] }, { accessFlags := 9, nameIndex := 56, descriptorIndex := 57, attributes := #[] }] 49 2 #[] #[])
  fields := #[]
  methods := #[k1m0, k1m1, k1m2, k1m3]
  instanceTypes := #[]
  staticTypes := #[]
  resolved := Array.replicate 60 none
  statics := none }

def pool2 : Array CpInfo := pool [(1, .class_ 2), (0, u "java/lang/constant/Constable"), (0, .class_ 4), (0, u "java/lang/Object")] 6

/-- java/lang/constant/Constable -/
def k2 : Class := { plain "java/lang/constant/Constable" (some 0) with
  accessFlags := 1537
  interfaces := #[]
  cf := some (fileOf pool2 1 #[] #[] 1537 3 #[] #[])
  fields := #[]
  methods := #[]
  instanceTypes := #[]
  staticTypes := #[]
  resolved := Array.replicate 11 none
  statics := none }

def pool3 : Array CpInfo := pool [(1, .class_ 2), (0, u "java/lang/Comparable"), (0, .class_ 4), (0, u "java/lang/Object")] 7

/-- java/lang/Comparable -/
def k3 : Class := { plain "java/lang/Comparable" (some 0) with
  accessFlags := 1537
  interfaces := #[]
  cf := some (fileOf pool3 1 #[] #[] 1537 3 #[] #[])
  fields := #[]
  methods := #[]
  instanceTypes := #[]
  staticTypes := #[]
  resolved := Array.replicate 12 none
  statics := none }

def pool4 : Array CpInfo := pool [(1, .class_ 2), (0, u "java/io/Serializable"), (0, .class_ 4), (0, u "java/lang/Object")] 2

/-- java/io/Serializable -/
def k4 : Class := { plain "java/io/Serializable" (some 0) with
  accessFlags := 1537
  interfaces := #[]
  cf := some (fileOf pool4 1 #[] #[] 1537 3 #[] #[])
  fields := #[]
  methods := #[]
  instanceTypes := #[]
  staticTypes := #[]
  resolved := Array.replicate 7 none
  statics := none }

def pool5 : Array CpInfo := pool [(2, .class_ 4), (1, u "java/lang/Enum"), (0, u "name"), (0, u "Ljava/lang/String;"), (2, u "ordinal"), (0, u "I"), (1, .class_ 14), (1, u "java/lang/Object"), (4, u "hash"), (86, .class_ 108), (1, u "java/lang/Enum$EnumDesc"), (2, .class_ 112), (0, u "java/lang/constant/Constable"), (0, .class_ 114), (0, u "java/lang/Comparable"), (0, .class_ 116), (0, u "java/io/Serializable")] 87

/-- java/lang/Enum -/
def k5 : Class := { plain "java/lang/Enum" (some 0) with
  accessFlags := 1057
  interfaces := #[2, 3, 4]
  cf := some (fileOf pool5 2 #[.nestMembers #[106]] #[] 1057 12 #[111, 113, 115] #[{ accessFlags := 18, nameIndex := 5, descriptorIndex := 6, attributes := #[] }, { accessFlags := 18, nameIndex := 9, descriptorIndex := 10, attributes := #[] }, { accessFlags := 2, nameIndex := 19, descriptorIndex := 10, attributes := #[] }])
  fields := #[{ name := "name", type := (.object "java/lang/String"), accessFlags := 18, slot := 0, constantValue := 0 }, { name := "ordinal", type := .int, accessFlags := 18, slot := 1, constantValue := 0 }, { name := "hash", type := .int, accessFlags := 2, slot := 2, constantValue := 0 }]
  methods := #[]
  instanceTypes := #[(.object "java/lang/String"), .int, .int]
  staticTypes := #[]
  resolved := Array.replicate 204 none
  statics := none }

def pool6 : Array CpInfo := pool [(1, .class_ 2), (0, u "com/example/outlay/outlay/nacha/TransactionCode"), (2, u "CHECKING_CREDIT_RETURN"), (0, u "Lcom/example/outlay/outlay/nacha/TransactionCode;"), (2, u "CHECKING_CREDIT"), (2, u "CHECKING_DEBIT_RETURN"), (2, u "CHECKING_DEBIT"), (2, u "SAVINGS_CREDIT_RETURN"), (2, u "SAVINGS_CREDIT"), (2, u "SAVINGS_DEBIT_RETURN"), (2, u "SAVINGS_DEBIT"), (2, u "$VALUES"), (0, u "[Lcom/example/outlay/outlay/nacha/TransactionCode;"), (6, .class_ 40), (1, u "java/lang/Enum"), (6, .fieldref 1 48), (0, .nameAndType 49 50), (0, u "code"), (0, u "Ljava/lang/String;"), (0, .methodref 52 53), (0, .class_ 54), (0, .nameAndType 55 56), (0, u "java/lang/String"), (0, u "charAt"), (0, u "(I)C"), (2, u "ALL"), (3, u "()Z"), (2, u "isDebit")] 62

def k6c0 : Code := { maxStack := 2, maxLocals := 1, code := prog_41_method_5_code, exceptionTable := #[], attributes := #[] }
def k6m0 : Method := { name := "isDebit", desc := "()Z", sig := { parameters := [], returnType := some .boolean }, accessFlags := 1, code := some k6c0 }
/-- com/example/outlay/outlay/nacha/TransactionCode -/
def k6 : Class := { plain "com/example/outlay/outlay/nacha/TransactionCode" (some 5) with
  accessFlags := 16433
  interfaces := #[]
  cf := some (fileOf pool6 1 #[] #[{ accessFlags := 1, nameIndex := 66, descriptorIndex := 63, attributes := #[] }] 16433 38 #[] #[{ accessFlags := 16409, nameIndex := 5, descriptorIndex := 6, attributes := #[] }, { accessFlags := 16409, nameIndex := 9, descriptorIndex := 6, attributes := #[] }, { accessFlags := 16409, nameIndex := 12, descriptorIndex := 6, attributes := #[] }, { accessFlags := 16409, nameIndex := 15, descriptorIndex := 6, attributes := #[] }, { accessFlags := 16409, nameIndex := 18, descriptorIndex := 6, attributes := #[] }, { accessFlags := 16409, nameIndex := 21, descriptorIndex := 6, attributes := #[] }, { accessFlags := 16409, nameIndex := 24, descriptorIndex := 6, attributes := #[] }, { accessFlags := 16409, nameIndex := 27, descriptorIndex := 6, attributes := #[] }, { accessFlags := 26, nameIndex := 59, descriptorIndex := 31, attributes := #[] }, { accessFlags := 18, nameIndex := 49, descriptorIndex := 50, attributes := #[] }, { accessFlags := 4122, nameIndex := 30, descriptorIndex := 31, attributes := #[] }])
  fields := #[{ name := "CHECKING_CREDIT_RETURN", type := (.object "com/example/outlay/outlay/nacha/TransactionCode"), accessFlags := 16409, slot := 0, constantValue := 0 }, { name := "CHECKING_CREDIT", type := (.object "com/example/outlay/outlay/nacha/TransactionCode"), accessFlags := 16409, slot := 1, constantValue := 0 }, { name := "CHECKING_DEBIT_RETURN", type := (.object "com/example/outlay/outlay/nacha/TransactionCode"), accessFlags := 16409, slot := 2, constantValue := 0 }, { name := "CHECKING_DEBIT", type := (.object "com/example/outlay/outlay/nacha/TransactionCode"), accessFlags := 16409, slot := 3, constantValue := 0 }, { name := "SAVINGS_CREDIT_RETURN", type := (.object "com/example/outlay/outlay/nacha/TransactionCode"), accessFlags := 16409, slot := 4, constantValue := 0 }, { name := "SAVINGS_CREDIT", type := (.object "com/example/outlay/outlay/nacha/TransactionCode"), accessFlags := 16409, slot := 5, constantValue := 0 }, { name := "SAVINGS_DEBIT_RETURN", type := (.object "com/example/outlay/outlay/nacha/TransactionCode"), accessFlags := 16409, slot := 6, constantValue := 0 }, { name := "SAVINGS_DEBIT", type := (.object "com/example/outlay/outlay/nacha/TransactionCode"), accessFlags := 16409, slot := 7, constantValue := 0 }, { name := "ALL", type := (.array (.object "com/example/outlay/outlay/nacha/TransactionCode")), accessFlags := 26, slot := 8, constantValue := 0 }, { name := "code", type := (.object "java/lang/String"), accessFlags := 18, slot := 3, constantValue := 0 }, { name := "$VALUES", type := (.array (.object "com/example/outlay/outlay/nacha/TransactionCode")), accessFlags := 4122, slot := 9, constantValue := 0 }]
  methods := #[k6m0]
  instanceTypes := #[(.object "java/lang/String"), .int, .int, (.object "java/lang/String")]
  staticTypes := #[(.object "com/example/outlay/outlay/nacha/TransactionCode"), (.object "com/example/outlay/outlay/nacha/TransactionCode"), (.object "com/example/outlay/outlay/nacha/TransactionCode"), (.object "com/example/outlay/outlay/nacha/TransactionCode"), (.object "com/example/outlay/outlay/nacha/TransactionCode"), (.object "com/example/outlay/outlay/nacha/TransactionCode"), (.object "com/example/outlay/outlay/nacha/TransactionCode"), (.object "com/example/outlay/outlay/nacha/TransactionCode"), (.array (.object "com/example/outlay/outlay/nacha/TransactionCode")), (.array (.object "com/example/outlay/outlay/nacha/TransactionCode"))]
  resolved := Array.replicate 129 none
  statics := some 0 }

def pool7 : Array CpInfo := pool [(1, .class_ 2), (0, u "com/example/outlay/outlay/nacha/ServiceClass"), (0, .fieldref 1 4), (0, .nameAndType 5 6), (0, u "MIXED"), (0, u "Lcom/example/outlay/outlay/nacha/ServiceClass;"), (0, .fieldref 1 8), (0, .nameAndType 9 6), (0, u "CREDITS"), (0, .fieldref 1 11), (0, .nameAndType 12 6), (0, u "DEBITS"), (2, u "$VALUES"), (0, u "[Lcom/example/outlay/outlay/nacha/ServiceClass;"), (6, .class_ 25), (1, u "java/lang/Enum"), (8, u "code"), (0, u "Ljava/lang/String;"), (2, u "holds"), (0, .methodref 40 41), (0, .class_ 42), (0, .nameAndType 43 44), (0, u "com/example/outlay/outlay/nacha/TransactionCode"), (0, u "isDebit"), (0, u "()Z"), (42, u "allows"), (0, u "(Lcom/example/outlay/outlay/nacha/TransactionCode;)Z"), (2, u "holding"), (0, u "(ZZ)Lcom/example/outlay/outlay/nacha/ServiceClass;")] 21

def k7c0 : Code := { maxStack := 3, maxLocals := 2, code := prog_39_method_5_code, exceptionTable := #[], attributes := #[] }
def k7m0 : Method := { name := "allows", desc := "(Lcom/example/outlay/outlay/nacha/TransactionCode;)Z", sig := { parameters := [(.object "com/example/outlay/outlay/nacha/TransactionCode")], returnType := some .boolean }, accessFlags := 1, code := some k7c0 }
def k7c1 : Code := { maxStack := 1, maxLocals := 2, code := prog_39_method_7_code, exceptionTable := #[], attributes := #[] }
def k7m1 : Method := { name := "holding", desc := "(ZZ)Lcom/example/outlay/outlay/nacha/ServiceClass;", sig := { parameters := [.boolean, .boolean], returnType := some (.object "com/example/outlay/outlay/nacha/ServiceClass") }, accessFlags := 9, code := some k7c1 }
/-- com/example/outlay/outlay/nacha/ServiceClass -/
def k7 : Class := { plain "com/example/outlay/outlay/nacha/ServiceClass" (some 5) with
  accessFlags := 16433
  interfaces := #[]
  cf := some (fileOf pool7 1 #[] #[{ accessFlags := 1, nameIndex := 87, descriptorIndex := 88, attributes := #[] }, { accessFlags := 9, nameIndex := 91, descriptorIndex := 92, attributes := #[] }] 16433 23 #[] #[{ accessFlags := 16409, nameIndex := 5, descriptorIndex := 6, attributes := #[] }, { accessFlags := 16409, nameIndex := 9, descriptorIndex := 6, attributes := #[] }, { accessFlags := 16409, nameIndex := 12, descriptorIndex := 6, attributes := #[] }, { accessFlags := 18, nameIndex := 34, descriptorIndex := 35, attributes := #[] }, { accessFlags := 18, nameIndex := 38, descriptorIndex := 35, attributes := #[] }, { accessFlags := 4122, nameIndex := 15, descriptorIndex := 16, attributes := #[] }])
  fields := #[{ name := "MIXED", type := (.object "com/example/outlay/outlay/nacha/ServiceClass"), accessFlags := 16409, slot := 0, constantValue := 0 }, { name := "CREDITS", type := (.object "com/example/outlay/outlay/nacha/ServiceClass"), accessFlags := 16409, slot := 1, constantValue := 0 }, { name := "DEBITS", type := (.object "com/example/outlay/outlay/nacha/ServiceClass"), accessFlags := 16409, slot := 2, constantValue := 0 }, { name := "code", type := (.object "java/lang/String"), accessFlags := 18, slot := 3, constantValue := 0 }, { name := "holds", type := (.object "java/lang/String"), accessFlags := 18, slot := 4, constantValue := 0 }, { name := "$VALUES", type := (.array (.object "com/example/outlay/outlay/nacha/ServiceClass")), accessFlags := 4122, slot := 3, constantValue := 0 }]
  methods := #[k7m0, k7m1]
  instanceTypes := #[(.object "java/lang/String"), .int, .int, (.object "java/lang/String"), (.object "java/lang/String")]
  staticTypes := #[(.object "com/example/outlay/outlay/nacha/ServiceClass"), (.object "com/example/outlay/outlay/nacha/ServiceClass"), (.object "com/example/outlay/outlay/nacha/ServiceClass"), (.array (.object "com/example/outlay/outlay/nacha/ServiceClass"))]
  resolved := Array.replicate 114 none
  statics := some 1 }

def pool8 : Array CpInfo := pool [(2, .class_ 4), (1, u "java/lang/CharSequence"), (42, .class_ 48), (0, u "java/lang/CharSequence$1CodePointIterator"), (10, .class_ 60), (0, u "java/lang/CharSequence$1CharIterator"), (5, .class_ 67), (0, u "java/lang/Object")] 63

/-- java/lang/CharSequence -/
def k8 : Class := { plain "java/lang/CharSequence" (some 0) with
  accessFlags := 1537
  interfaces := #[]
  cf := some (fileOf pool8 2 #[.nestMembers #[47, 59]] #[] 1537 66 #[] #[])
  fields := #[]
  methods := #[]
  instanceTypes := #[]
  staticTypes := #[]
  resolved := Array.replicate 131 none
  statics := none }

def pool9 : Array CpInfo := pool [(1, .class_ 2), (0, u "java/lang/constant/ConstantDesc"), (0, .class_ 4), (0, u "java/lang/Object")] 32

/-- java/lang/constant/ConstantDesc -/
def k9 : Class := { plain "java/lang/constant/ConstantDesc" (some 0) with
  accessFlags := 1537
  interfaces := #[]
  cf := some (fileOf pool9 1 #[] #[] 1537 3 #[] #[])
  fields := #[]
  methods := #[]
  instanceTypes := #[]
  staticTypes := #[]
  resolved := Array.replicate 37 none
  statics := none }

def pool10 : Array CpInfo := pool [(2, .class_ 4), (1, u "java/lang/Object"), (0, u "<init>"), (0, u "()V"), (2, .fieldref 10 11), (0, .class_ 12), (0, .nameAndType 13 14), (0, u "java/lang/String"), (0, u "value"), (0, u "[B"), (0, .fieldref 10 16), (0, .nameAndType 17 18), (0, u "coder"), (0, u "B"), (2, u "hash"), (0, u "I"), (2, u "hashIsZero"), (0, u "Z"), (11, .fieldref 10 39), (0, .nameAndType 40 26), (0, u "COMPACT_STRINGS"), (66, .class_ 109), (1, u "java/lang/StringLatin1"), (32, u "()Z"), (220, u "([BI)C"), (27, u "(II)V"), (35, u "(I)C"), (64, .methodref 10 493), (0, .nameAndType 494 142), (0, u "isLatin1"), (0, .methodref 107 496), (0, .nameAndType 497 363), (0, u "charAt"), (3, u "checkIndex"), (73, .class_ 576), (0, u "java/lang/CharSequence"), (22, u "CASE_INSENSITIVE_ORDER"), (0, u "Ljava/util/Comparator;"), (452, .fieldref 1054 1055), (0, .class_ 1056), (0, .nameAndType 1057 1058), (0, u "jdk/internal/util/Preconditions"), (0, u "SIOOBE_FORMATTER"), (0, u "Ljava/util/function/BiFunction;"), (0, .methodref 1054 1060), (0, .nameAndType 501 1061), (0, u "(IILjava/util/function/BiFunction;)I"), (39, u "serialPersistentFields"), (0, u "[Ljava/io/ObjectStreamField;"), (0, .class_ 1104), (0, u "java/lang/String$CaseInsensitiveComparator"), (1, .class_ 1107), (0, u "java/io/Serializable"), (0, .class_ 1109), (0, u "java/lang/Comparable"), (0, .class_ 1111), (0, u "java/lang/constant/Constable"), (0, .class_ 1113), (0, u "java/lang/constant/ConstantDesc"), (2, u "serialVersionUID"), (0, u "J"), (3, u "REPL"), (0, u "C"), (2, u "LATIN1"), (1, u "UTF16")] 323

def k10m0 : Method := { name := "<init>", desc := "()V", sig := { parameters := [], returnType := none }, accessFlags := 1, code := none }
def k10c1 : Code := { maxStack := 2, maxLocals := 2, code := jdk_42_method_56_code, exceptionTable := #[], attributes := #[] }
def k10m1 : Method := { name := "charAt", desc := "(I)C", sig := { parameters := [.int], returnType := some .char }, accessFlags := 1, code := some k10c1 }
def k10c2 : Code := { maxStack := 1, maxLocals := 1, code := jdk_42_method_154_code, exceptionTable := #[], attributes := #[] }
def k10m2 : Method := { name := "isLatin1", desc := "()Z", sig := { parameters := [], returnType := some .boolean }, accessFlags := 0, code := some k10c2 }
def k10c3 : Code := { maxStack := 3, maxLocals := 2, code := jdk_42_method_155_code, exceptionTable := #[], attributes := #[] }
def k10m3 : Method := { name := "checkIndex", desc := "(II)V", sig := { parameters := [.int, .int], returnType := none }, accessFlags := 8, code := some k10c3 }
/-- java/lang/String -/
def k10 : Class := { plain "java/lang/String" (some 0) with
  accessFlags := 49
  interfaces := #[4, 3, 8, 2, 9]
  cf := some (fileOf pool10 10 #[.nestMembers #[1103]] #[{ accessFlags := 1, nameIndex := 5, descriptorIndex := 6, attributes := #[] }, { accessFlags := 1, nameIndex := 497, descriptorIndex := 427, attributes := #[] }, { accessFlags := 0, nameIndex := 494, descriptorIndex := 142, attributes := #[] }, { accessFlags := 8, nameIndex := 501, descriptorIndex := 391, attributes := #[] }] 49 2 #[1106, 1108, 575, 1110, 1112] #[{ accessFlags := 18, nameIndex := 13, descriptorIndex := 14, attributes := #[] }, { accessFlags := 18, nameIndex := 17, descriptorIndex := 18, attributes := #[] }, { accessFlags := 2, nameIndex := 21, descriptorIndex := 22, attributes := #[] }, { accessFlags := 2, nameIndex := 25, descriptorIndex := 26, attributes := #[] }, { accessFlags := 26, nameIndex := 1116, descriptorIndex := 1117, attributes := #[] }, { accessFlags := 24, nameIndex := 40, descriptorIndex := 26, attributes := #[] }, { accessFlags := 26, nameIndex := 1101, descriptorIndex := 1102, attributes := #[] }, { accessFlags := 26, nameIndex := 1121, descriptorIndex := 1122, attributes := #[] }, { accessFlags := 25, nameIndex := 599, descriptorIndex := 600, attributes := #[] }, { accessFlags := 24, nameIndex := 1125, descriptorIndex := 18, attributes := #[] }, { accessFlags := 24, nameIndex := 1127, descriptorIndex := 18, attributes := #[] }])
  fields := #[{ name := "value", type := (.array .byte), accessFlags := 18, slot := 0, constantValue := 0 }, { name := "coder", type := .byte, accessFlags := 18, slot := 1, constantValue := 0 }, { name := "hash", type := .int, accessFlags := 2, slot := 2, constantValue := 0 }, { name := "hashIsZero", type := .boolean, accessFlags := 2, slot := 3, constantValue := 0 }, { name := "serialVersionUID", type := .long, accessFlags := 26, slot := 0, constantValue := 0 }, { name := "COMPACT_STRINGS", type := .boolean, accessFlags := 24, slot := 1, constantValue := 0 }, { name := "serialPersistentFields", type := (.array (.object "java/io/ObjectStreamField")), accessFlags := 26, slot := 2, constantValue := 0 }, { name := "REPL", type := .char, accessFlags := 26, slot := 3, constantValue := 0 }, { name := "CASE_INSENSITIVE_ORDER", type := (.object "java/util/Comparator"), accessFlags := 25, slot := 4, constantValue := 0 }, { name := "LATIN1", type := .byte, accessFlags := 24, slot := 5, constantValue := 0 }, { name := "UTF16", type := .byte, accessFlags := 24, slot := 6, constantValue := 0 }]
  methods := #[k10m0, k10m1, k10m2, k10m3]
  instanceTypes := #[(.array .byte), .byte, .int, .boolean]
  staticTypes := #[.long, .boolean, (.array (.object "java/io/ObjectStreamField")), .char, (.object "java/util/Comparator"), .byte, .byte]
  resolved := Array.replicate 1451 none
  statics := some 2 }

def pool11 : Array CpInfo := pool [(1, .class_ 2), (0, u "java/lang/String"), (1, .class_ 6), (1, u "java/lang/Object"), (0, u "<init>"), (0, u "()V"), (0, .methodref 1 10), (0, .nameAndType 11 12), (0, u "checkIndex"), (0, u "(II)V"), (1, .class_ 16), (1, u "java/lang/StringLatin1"), (36, u "([BI)C"), (67, u "$assertionsDisabled"), (0, u "Z"), (98, .class_ 223), (1, u "java/lang/StringLatin1$LinesSpliterator"), (28, u "charAt"), (137, .class_ 391), (0, u "java/lang/StringLatin1$CharsSpliterator")] 3

def k11m0 : Method := { name := "<init>", desc := "()V", sig := { parameters := [], returnType := none }, accessFlags := 0, code := none }
def k11c1 : Code := { maxStack := 2, maxLocals := 2, code := jdk_43_method_2_code, exceptionTable := #[], attributes := #[] }
def k11m1 : Method := { name := "charAt", desc := "([BI)C", sig := { parameters := [(.array .byte), .int], returnType := some .char }, accessFlags := 9, code := some k11c1 }
/-- java/lang/StringLatin1 -/
def k11 : Class := { plain "java/lang/StringLatin1" (some 0) with
  accessFlags := 48
  interfaces := #[]
  cf := some (fileOf pool11 14 #[.nestMembers #[390, 221]] #[{ accessFlags := 0, nameIndex := 7, descriptorIndex := 8, attributes := #[] }, { accessFlags := 9, nameIndex := 252, descriptorIndex := 53, attributes := #[] }] 48 4 #[] #[{ accessFlags := 4120, nameIndex := 121, descriptorIndex := 122, attributes := #[] }])
  fields := #[{ name := "$assertionsDisabled", type := .boolean, accessFlags := 4120, slot := 0, constantValue := 0 }]
  methods := #[k11m0, k11m1]
  instanceTypes := #[]
  staticTypes := #[.boolean]
  resolved := Array.replicate 395 none
  statics := none }

def pool12 : Array CpInfo := pool [(2, .class_ 4), (1, u "java/lang/Object"), (0, u "<init>"), (0, u "()V"), (17, .class_ 26), (1, u "jdk/internal/util/Preconditions"), (6, u "checkIndex"), (21, .class_ 56), (0, u "jdk/internal/util/Preconditions$4"), (57, .class_ 115), (0, u "jdk/internal/util/Preconditions$1"), (7, u "SIOOBE_FORMATTER"), (0, u "Ljava/util/function/BiFunction;"), (0, .class_ 126), (0, u "jdk/internal/util/Preconditions$2"), (3, u "AIOOBE_FORMATTER"), (0, .class_ 132), (0, u "jdk/internal/util/Preconditions$3"), (3, u "IOOBE_FORMATTER"), (41, u "(IILjava/util/function/BiFunction;)I")] 15

def k12m0 : Method := { name := "<init>", desc := "()V", sig := { parameters := [], returnType := none }, accessFlags := 1, code := none }
def k12c1 : Code := { maxStack := 3, maxLocals := 3, code := jdk_41_method_11_code, exceptionTable := #[], attributes := #[] }
def k12m1 : Method := { name := "checkIndex", desc := "(IILjava/util/function/BiFunction;)I", sig := { parameters := [.int, .int, (.object "java/util/function/BiFunction")], returnType := some .int }, accessFlags := 9, code := some k12c1 }
/-- jdk/internal/util/Preconditions -/
def k12 : Class := { plain "jdk/internal/util/Preconditions" (some 0) with
  accessFlags := 33
  interfaces := #[]
  cf := some (fileOf pool12 24 #[.nestMembers #[55, 131, 125, 114]] #[{ accessFlags := 1, nameIndex := 5, descriptorIndex := 6, attributes := #[] }, { accessFlags := 9, nameIndex := 33, descriptorIndex := 178, attributes := #[] }] 33 2 #[] #[{ accessFlags := 25, nameIndex := 123, descriptorIndex := 124, attributes := #[] }, { accessFlags := 25, nameIndex := 130, descriptorIndex := 124, attributes := #[] }, { accessFlags := 25, nameIndex := 136, descriptorIndex := 124, attributes := #[] }])
  fields := #[{ name := "SIOOBE_FORMATTER", type := (.object "java/util/function/BiFunction"), accessFlags := 25, slot := 0, constantValue := 0 }, { name := "AIOOBE_FORMATTER", type := (.object "java/util/function/BiFunction"), accessFlags := 25, slot := 1, constantValue := 0 }, { name := "IOOBE_FORMATTER", type := (.object "java/util/function/BiFunction"), accessFlags := 25, slot := 2, constantValue := 0 }]
  methods := #[k12m0, k12m1]
  instanceTypes := #[]
  staticTypes := #[(.object "java/util/function/BiFunction"), (.object "java/util/function/BiFunction"), (.object "java/util/function/BiFunction")]
  resolved := Array.replicate 194 none
  statics := some 3 }

def pool13 : Array CpInfo := pool [(9, u "<init>"), (6, .class_ 18), (1, u "java/lang/Object"), (0, u "()V"), (1, .class_ 23), (1, u "jdk/internal/util/ArraysSupport"), (0, u "LOG2_ARRAY_LONG_INDEX_SCALE"), (0, u "I"), (2, u "U"), (0, u "Ljdk/internal/misc/Unsafe;"), (8, u "BIG_ENDIAN"), (0, u "Z"), (8, u "LOG2_BYTE_BIT_SIZE"), (4, u "LOG2_ARRAY_INT_INDEX_SCALE"), (54, u "JLA"), (0, u "Ljdk/internal/access/JavaLangAccess;"), (11, u "LOG2_ARRAY_BOOLEAN_INDEX_SCALE"), (9, u "LOG2_ARRAY_BYTE_INDEX_SCALE"), (5, u "LOG2_ARRAY_CHAR_INDEX_SCALE"), (5, u "LOG2_ARRAY_SHORT_INDEX_SCALE"), (18, u "LOG2_ARRAY_FLOAT_INDEX_SCALE"), (24, u "LOG2_ARRAY_DOUBLE_INDEX_SCALE"), (89, u "T_BOOLEAN"), (2, u "T_CHAR"), (1, u "T_FLOAT"), (1, u "T_DOUBLE"), (1, u "T_BYTE"), (1, u "T_SHORT"), (1, u "T_INT"), (1, u "T_LONG"), (1, u "SOFT_MAX_ARRAY_LENGTH")] 83

def k13m0 : Method := { name := "<init>", desc := "()V", sig := { parameters := [], returnType := none }, accessFlags := 2, code := none }
/-- jdk/internal/util/ArraysSupport -/
def k13 : Class := { plain "jdk/internal/util/ArraysSupport" (some 0) with
  accessFlags := 33
  interfaces := #[]
  cf := some (fileOf pool13 21 #[] #[{ accessFlags := 2, nameIndex := 9, descriptorIndex := 19, attributes := #[] }] 33 16 #[] #[{ accessFlags := 24, nameIndex := 28, descriptorIndex := 29, attributes := #[] }, { accessFlags := 26, nameIndex := 38, descriptorIndex := 39, attributes := #[] }, { accessFlags := 25, nameIndex := 121, descriptorIndex := 25, attributes := #[] }, { accessFlags := 25, nameIndex := 131, descriptorIndex := 25, attributes := #[] }, { accessFlags := 25, nameIndex := 137, descriptorIndex := 25, attributes := #[] }, { accessFlags := 25, nameIndex := 143, descriptorIndex := 25, attributes := #[] }, { accessFlags := 25, nameIndex := 53, descriptorIndex := 25, attributes := #[] }, { accessFlags := 25, nameIndex := 24, descriptorIndex := 25, attributes := #[] }, { accessFlags := 25, nameIndex := 162, descriptorIndex := 25, attributes := #[] }, { accessFlags := 25, nameIndex := 187, descriptorIndex := 25, attributes := #[] }, { accessFlags := 26, nameIndex := 48, descriptorIndex := 25, attributes := #[] }, { accessFlags := 25, nameIndex := 277, descriptorIndex := 25, attributes := #[] }, { accessFlags := 25, nameIndex := 280, descriptorIndex := 25, attributes := #[] }, { accessFlags := 25, nameIndex := 282, descriptorIndex := 25, attributes := #[] }, { accessFlags := 25, nameIndex := 284, descriptorIndex := 25, attributes := #[] }, { accessFlags := 25, nameIndex := 286, descriptorIndex := 25, attributes := #[] }, { accessFlags := 25, nameIndex := 288, descriptorIndex := 25, attributes := #[] }, { accessFlags := 25, nameIndex := 290, descriptorIndex := 25, attributes := #[] }, { accessFlags := 25, nameIndex := 292, descriptorIndex := 25, attributes := #[] }, { accessFlags := 26, nameIndex := 108, descriptorIndex := 109, attributes := #[] }, { accessFlags := 25, nameIndex := 294, descriptorIndex := 25, attributes := #[] }])
  fields := #[{ name := "U", type := (.object "jdk/internal/misc/Unsafe"), accessFlags := 24, slot := 0, constantValue := 0 }, { name := "BIG_ENDIAN", type := .boolean, accessFlags := 26, slot := 1, constantValue := 0 }, { name := "LOG2_ARRAY_BOOLEAN_INDEX_SCALE", type := .int, accessFlags := 25, slot := 2, constantValue := 0 }, { name := "LOG2_ARRAY_BYTE_INDEX_SCALE", type := .int, accessFlags := 25, slot := 3, constantValue := 0 }, { name := "LOG2_ARRAY_CHAR_INDEX_SCALE", type := .int, accessFlags := 25, slot := 4, constantValue := 0 }, { name := "LOG2_ARRAY_SHORT_INDEX_SCALE", type := .int, accessFlags := 25, slot := 5, constantValue := 0 }, { name := "LOG2_ARRAY_INT_INDEX_SCALE", type := .int, accessFlags := 25, slot := 6, constantValue := 0 }, { name := "LOG2_ARRAY_LONG_INDEX_SCALE", type := .int, accessFlags := 25, slot := 7, constantValue := 0 }, { name := "LOG2_ARRAY_FLOAT_INDEX_SCALE", type := .int, accessFlags := 25, slot := 8, constantValue := 0 }, { name := "LOG2_ARRAY_DOUBLE_INDEX_SCALE", type := .int, accessFlags := 25, slot := 9, constantValue := 0 }, { name := "LOG2_BYTE_BIT_SIZE", type := .int, accessFlags := 26, slot := 10, constantValue := 0 }, { name := "T_BOOLEAN", type := .int, accessFlags := 25, slot := 11, constantValue := 0 }, { name := "T_CHAR", type := .int, accessFlags := 25, slot := 12, constantValue := 0 }, { name := "T_FLOAT", type := .int, accessFlags := 25, slot := 13, constantValue := 0 }, { name := "T_DOUBLE", type := .int, accessFlags := 25, slot := 14, constantValue := 0 }, { name := "T_BYTE", type := .int, accessFlags := 25, slot := 15, constantValue := 0 }, { name := "T_SHORT", type := .int, accessFlags := 25, slot := 16, constantValue := 0 }, { name := "T_INT", type := .int, accessFlags := 25, slot := 17, constantValue := 0 }, { name := "T_LONG", type := .int, accessFlags := 25, slot := 18, constantValue := 0 }, { name := "JLA", type := (.object "jdk/internal/access/JavaLangAccess"), accessFlags := 26, slot := 19, constantValue := 0 }, { name := "SOFT_MAX_ARRAY_LENGTH", type := .int, accessFlags := 25, slot := 20, constantValue := 0 }]
  methods := #[k13m0]
  instanceTypes := #[]
  staticTypes := #[(.object "jdk/internal/misc/Unsafe"), .boolean, .int, .int, .int, .int, .int, .int, .int, .int, .int, .int, .int, .int, .int, .int, .int, .int, .int, (.object "jdk/internal/access/JavaLangAccess"), .int]
  resolved := Array.replicate 378 none
  statics := none }

def pool14 : Array CpInfo := pool [(1, u "java/lang/Cloneable"), (0, .class_ 1), (0, u "java/lang/Object"), (0, .class_ 3)] 3

/-- java/lang/Cloneable -/
def k14 : Class := { plain "java/lang/Cloneable" (some 0) with
  accessFlags := 1537
  interfaces := #[]
  cf := some (fileOf pool14 2 #[] #[] 1537 4 #[] #[])
  fields := #[]
  methods := #[]
  instanceTypes := #[]
  staticTypes := #[]
  resolved := Array.replicate 8 none
  statics := none }

/-- the primitive byte -/
def k15 : Class := { plain "byte" none with kind := .primitive 'B', accessFlags := 0x411 }
/-- [B -/
def k16 : Class := { plain "[B" (some 0) with kind := .array 15 .byte, interfaces := #[14, 4], accessFlags := 1041 }

/-- the primitive int -/
def k17 : Class := { plain "int" none with kind := .primitive 'I', accessFlags := 0x411 }
/-- [I -/
def k18 : Class := { plain "[I" (some 0) with kind := .array 17 .int, interfaces := #[14, 4], accessFlags := 1041 }

def heap : Heap := #[{ cls := 6, slots := #[.ref 4, .ref 7, .ref 16, .ref 19, .ref 10, .ref 13, .ref 22, .ref 25, .null, .null], vm := .statics 6 },
  { cls := 7, slots := #[.ref 28, .ref 29, .ref 30, .null], vm := .statics 7 },
  { cls := 10, slots := #[.long 0, .int 1, .null, .int 0, .null, .int 0, .int 0], vm := .statics 10 },
  { cls := 12, slots := #[.null, .null, .null], vm := .statics 12 },
  { cls := 6, slots := #[.null, .int 0, .int 0, .ref 5], vm := .none },
  { cls := 10, slots := #[.ref 6, .int 0, .int 0, .int 0], vm := .none },
  { cls := 16, slots := #[.int 50, .int 49], vm := .none },
  { cls := 6, slots := #[.null, .int 1, .int 0, .ref 8], vm := .none },
  { cls := 10, slots := #[.ref 9, .int 0, .int 0, .int 0], vm := .none },
  { cls := 16, slots := #[.int 50, .int 50], vm := .none },
  { cls := 6, slots := #[.null, .int 2, .int 0, .ref 11], vm := .none },
  { cls := 10, slots := #[.ref 12, .int 0, .int 0, .int 0], vm := .none },
  { cls := 16, slots := #[.int 51, .int 49], vm := .none },
  { cls := 6, slots := #[.null, .int 3, .int 0, .ref 14], vm := .none },
  { cls := 10, slots := #[.ref 15, .int 0, .int 0, .int 0], vm := .none },
  { cls := 16, slots := #[.int 51, .int 50], vm := .none },
  { cls := 6, slots := #[.null, .int 4, .int 0, .ref 17], vm := .none },
  { cls := 10, slots := #[.ref 18, .int 0, .int 0, .int 0], vm := .none },
  { cls := 16, slots := #[.int 50, .int 54], vm := .none },
  { cls := 6, slots := #[.null, .int 5, .int 0, .ref 20], vm := .none },
  { cls := 10, slots := #[.ref 21, .int 0, .int 0, .int 0], vm := .none },
  { cls := 16, slots := #[.int 50, .int 55], vm := .none },
  { cls := 6, slots := #[.null, .int 6, .int 0, .ref 23], vm := .none },
  { cls := 10, slots := #[.ref 24, .int 0, .int 0, .int 0], vm := .none },
  { cls := 16, slots := #[.int 51, .int 54], vm := .none },
  { cls := 6, slots := #[.null, .int 7, .int 0, .ref 26], vm := .none },
  { cls := 10, slots := #[.ref 27, .int 0, .int 0, .int 0], vm := .none },
  { cls := 16, slots := #[.int 51, .int 55], vm := .none },
  { cls := 7, slots := #[.null, .int 0, .int 0, .null, .null], vm := .none },
  { cls := 7, slots := #[.null, .int 1, .int 0, .null, .null], vm := .none },
  { cls := 7, slots := #[.null, .int 2, .int 0, .null, .null], vm := .none }]
def classes : Array Class := #[k0, k1, k2, k3, k4, k5, k6, k7, k8, k9, k10, k11, k12, k13, k14, k15, k16, k17, k18]
def interned : List (Array UInt16 × Addr) := []
def slotsUsed : Nat := 119
def theMethod : MethodId := ⟨1, 3⟩
def args0 : Array Value := #[.int 3, .int 5]
def aboutOver (below : List Frame) : State where
  vm := { classes := classes, interned := interned.toArray }
  heap := heap
  slotsUsed := slotsUsed
  threads := #[{ frames := .invoking theMethod args0 :: below }]
def below0 : List Frame := [.native { method := ⟨0, 0⟩, args := #[] }]
def about1 : State := aboutOver below0
def p0 : Program := .bare "" "" ""
def e0 : Env := launch0.env 0 0 0
theorem w_frames : about1.frames = Frame.invoking theMethod args0 :: below0 := rfl
set_option maxRecDepth 65536 in
theorem w_args : argsFit about1.vm theMethod args0 = true := by decide +kernel
set_option maxRecDepth 65536 in
theorem w_heap : heapFits about1 = true := by decide +kernel
set_option maxRecDepth 65536 in
theorem w_runnable : about1.curStatus? = some .runnable := by decide +kernel
set_option maxRecDepth 65536 in
theorem w_alone : about1.alone = true := by decide +kernel
set_option maxRecDepth 65536 in
theorem w_named : about1.methodNamed? x = some theMethod := by decide +kernel
set_option maxRecDepth 65536 in
theorem w_hears : about1.hears theMethod below0 = true := by decide +kernel
set_option maxRecDepth 65536 in
theorem w_ripe : about1.ripe theMethod args0 below0 = true := by decide +kernel
theorem w_running : about1.status = .running := rfl
set_option maxRecDepth 65536 in
theorem w_room : about1.hasRoom e0.platform room_1 = true :=
  launch0.hasRoom_least _ room_1 (by decide +kernel) (by decide +kernel) (by decide +kernel) (by decide +kernel) (by decide +kernel) (by decide +kernel)
theorem allAtoms_all (ts : List Jvm.Cond) (a : Array Jvm.Value) (st : Jvm.State) : (allAtoms ts).before a st = ts.all (fun c => c.before a st) := by
  induction ts with
  | nil => rfl
  | cons c t ih =>
    show (Jvm.Cond.and c (allAtoms t)).before a st = _
    rw [Jvm.Cond.before_and, ih, List.all_cons]
def words1 : List Jvm.Cond := Jvm.Cond.code x code maxLocals ret :: tables_1
/-- a 'code' word, met by the world's own term for the bytes: nothing is compared byte by byte -/
theorem code_word {y : MethodName} {bytes : ByteArray} {mx : Nat} {rt : Option FieldType} {a : Array Value} {s : State} {m : MethodId} {meth : Method} {c : Code} (h1 : s.methodNamed? y = some m) (h2 : s.vm.method? m = some meth) (h3 : meth.code = some c) (h4 : c.code = bytes)
    (h5 : (c.maxLocals == mx && c.exceptionTable.isEmpty && decide (c.maxStack ≤ mostOperands) && decide (meth.sig.returnType = rt) && !meth.locks && decide (parseMethodDescriptor y.desc = some meth.sig)) = true) : (Jvm.Cond.code y bytes mx rt).before a s = true := by
  simp only [Bool.and_eq_true, beq_iff_eq, Bool.not_eq_true', decide_eq_true_eq] at h5
  obtain ⟨⟨⟨⟨⟨g1, g2⟩, g3⟩, g4⟩, g5⟩, g6⟩ := h5
  simp [Cond.before, Cond.holds, Cond.value, h1, h2, h3, h4, g1, g2, g3, g4, g5, g6]
def isCode : Jvm.Cond → Bool
  | .code _ _ _ _ => true
  | _ => false
theorem all_split {L : List Jvm.Cond} {P : Jvm.Cond → Bool} (h1 : L.all (fun c => isCode c || P c) = true) (h2 : ∀ c ∈ L.filter isCode, P c = true) : L.all P = true := by
  refine List.all_eq_true.mpr fun c hc => ?_
  have h := List.all_eq_true.mp h1 c hc
  rcases Bool.eq_false_or_eq_true (isCode c) with hi | hi
  · exact h2 c (List.mem_filter.mpr ⟨hc, hi⟩)
  · simpa [hi] using h
set_option maxRecDepth 65536 in
theorem w_c0 : (Jvm.Cond.code x code maxLocals ret).before args0 about1 = true := code_word (m := ⟨1, 3⟩) (meth := k1m3) (c := k1c3) (by decide +kernel) rfl rfl rfl (by decide +kernel)
set_option maxRecDepth 65536 in
theorem w_c1 : (Jvm.Cond.code ({ cls := "com/example/outlay/outlay/nacha/ServiceClassHoldingPinLaw", name := "creditCode", desc := "(I)Lcom/example/outlay/outlay/nacha/TransactionCode;" } : Jvm.MethodName) method_2_code (2 : Nat) (Option.some (Jvm.ClassFile.FieldType.object "com/example/outlay/outlay/nacha/TransactionCode"))).before args0 about1 = true := code_word (m := ⟨1, 1⟩) (meth := k1m1) (c := k1c1) (by decide +kernel) rfl rfl rfl (by decide +kernel)
set_option maxRecDepth 65536 in
theorem w_c2 : (Jvm.Cond.code ({ cls := "com/example/outlay/outlay/nacha/ServiceClassHoldingPinLaw", name := "debitCode", desc := "(I)Lcom/example/outlay/outlay/nacha/TransactionCode;" } : Jvm.MethodName) method_3_code (2 : Nat) (Option.some (Jvm.ClassFile.FieldType.object "com/example/outlay/outlay/nacha/TransactionCode"))).before args0 about1 = true := code_word (m := ⟨1, 2⟩) (meth := k1m2) (c := k1c2) (by decide +kernel) rfl rfl rfl (by decide +kernel)
set_option maxRecDepth 65536 in
theorem w_c3 : (Jvm.Cond.code ({ cls := "com/example/outlay/outlay/nacha/ServiceClass", name := "holding", desc := "(ZZ)Lcom/example/outlay/outlay/nacha/ServiceClass;" } : Jvm.MethodName) prog_39_method_7_code (2 : Nat) (Option.some (Jvm.ClassFile.FieldType.object "com/example/outlay/outlay/nacha/ServiceClass"))).before args0 about1 = true := code_word (m := ⟨7, 1⟩) (meth := k7m1) (c := k7c1) (by decide +kernel) rfl rfl rfl (by decide +kernel)
set_option maxRecDepth 65536 in
theorem w_c4 : (Jvm.Cond.code ({ cls := "com/example/outlay/outlay/nacha/ServiceClass", name := "allows", desc := "(Lcom/example/outlay/outlay/nacha/TransactionCode;)Z" } : Jvm.MethodName) prog_39_method_5_code (2 : Nat) (Option.some Jvm.ClassFile.FieldType.boolean)).before args0 about1 = true := code_word (m := ⟨7, 0⟩) (meth := k7m0) (c := k7c0) (by decide +kernel) rfl rfl rfl (by decide +kernel)
set_option maxRecDepth 65536 in
theorem w_c5 : (Jvm.Cond.code ({ cls := "com/example/outlay/outlay/nacha/TransactionCode", name := "isDebit", desc := "()Z" } : Jvm.MethodName) prog_41_method_5_code (1 : Nat) (Option.some Jvm.ClassFile.FieldType.boolean)).before args0 about1 = true := code_word (m := ⟨6, 0⟩) (meth := k6m0) (c := k6c0) (by decide +kernel) rfl rfl rfl (by decide +kernel)
set_option maxRecDepth 65536 in
theorem w_c6 : (Jvm.Cond.code ({ cls := "java/lang/String", name := "charAt", desc := "(I)C" } : Jvm.MethodName) jdk_42_method_56_code (2 : Nat) (Option.some Jvm.ClassFile.FieldType.char)).before args0 about1 = true := code_word (m := ⟨10, 1⟩) (meth := k10m1) (c := k10c1) (by decide +kernel) rfl rfl rfl (by decide +kernel)
set_option maxRecDepth 65536 in
theorem w_c7 : (Jvm.Cond.code ({ cls := "java/lang/String", name := "isLatin1", desc := "()Z" } : Jvm.MethodName) jdk_42_method_154_code (1 : Nat) (Option.some Jvm.ClassFile.FieldType.boolean)).before args0 about1 = true := code_word (m := ⟨10, 2⟩) (meth := k10m2) (c := k10c2) (by decide +kernel) rfl rfl rfl (by decide +kernel)
set_option maxRecDepth 65536 in
theorem w_c8 : (Jvm.Cond.code ({ cls := "java/lang/StringLatin1", name := "charAt", desc := "([BI)C" } : Jvm.MethodName) jdk_43_method_2_code (2 : Nat) (Option.some Jvm.ClassFile.FieldType.char)).before args0 about1 = true := code_word (m := ⟨11, 1⟩) (meth := k11m1) (c := k11c1) (by decide +kernel) rfl rfl rfl (by decide +kernel)
set_option maxRecDepth 65536 in
theorem w_c9 : (Jvm.Cond.code ({ cls := "java/lang/String", name := "checkIndex", desc := "(II)V" } : Jvm.MethodName) jdk_42_method_155_code (2 : Nat) (Option.none : Option Jvm.ClassFile.FieldType)).before args0 about1 = true := code_word (m := ⟨10, 3⟩) (meth := k10m3) (c := k10c3) (by decide +kernel) rfl rfl rfl (by decide +kernel)
set_option maxRecDepth 65536 in
theorem w_c10 : (Jvm.Cond.code ({ cls := "jdk/internal/util/Preconditions", name := "checkIndex", desc := "(IILjava/util/function/BiFunction;)I" } : Jvm.MethodName) jdk_41_method_11_code (3 : Nat) (Option.some Jvm.ClassFile.FieldType.int)).before args0 about1 = true := code_word (m := ⟨12, 1⟩) (meth := k12m1) (c := k12c1) (by decide +kernel) rfl rfl rfl (by decide +kernel)
def codes1 : List Jvm.Cond := [Jvm.Cond.code x code maxLocals ret, Jvm.Cond.code ({ cls := "com/example/outlay/outlay/nacha/ServiceClassHoldingPinLaw", name := "creditCode", desc := "(I)Lcom/example/outlay/outlay/nacha/TransactionCode;" } : Jvm.MethodName) method_2_code (2 : Nat) (Option.some (Jvm.ClassFile.FieldType.object "com/example/outlay/outlay/nacha/TransactionCode")), Jvm.Cond.code ({ cls := "com/example/outlay/outlay/nacha/ServiceClassHoldingPinLaw", name := "debitCode", desc := "(I)Lcom/example/outlay/outlay/nacha/TransactionCode;" } : Jvm.MethodName) method_3_code (2 : Nat) (Option.some (Jvm.ClassFile.FieldType.object "com/example/outlay/outlay/nacha/TransactionCode")), Jvm.Cond.code ({ cls := "com/example/outlay/outlay/nacha/ServiceClass", name := "holding", desc := "(ZZ)Lcom/example/outlay/outlay/nacha/ServiceClass;" } : Jvm.MethodName) prog_39_method_7_code (2 : Nat) (Option.some (Jvm.ClassFile.FieldType.object "com/example/outlay/outlay/nacha/ServiceClass")), Jvm.Cond.code ({ cls := "com/example/outlay/outlay/nacha/ServiceClass", name := "allows", desc := "(Lcom/example/outlay/outlay/nacha/TransactionCode;)Z" } : Jvm.MethodName) prog_39_method_5_code (2 : Nat) (Option.some Jvm.ClassFile.FieldType.boolean), Jvm.Cond.code ({ cls := "com/example/outlay/outlay/nacha/TransactionCode", name := "isDebit", desc := "()Z" } : Jvm.MethodName) prog_41_method_5_code (1 : Nat) (Option.some Jvm.ClassFile.FieldType.boolean), Jvm.Cond.code ({ cls := "java/lang/String", name := "charAt", desc := "(I)C" } : Jvm.MethodName) jdk_42_method_56_code (2 : Nat) (Option.some Jvm.ClassFile.FieldType.char), Jvm.Cond.code ({ cls := "java/lang/String", name := "isLatin1", desc := "()Z" } : Jvm.MethodName) jdk_42_method_154_code (1 : Nat) (Option.some Jvm.ClassFile.FieldType.boolean), Jvm.Cond.code ({ cls := "java/lang/StringLatin1", name := "charAt", desc := "([BI)C" } : Jvm.MethodName) jdk_43_method_2_code (2 : Nat) (Option.some Jvm.ClassFile.FieldType.char), Jvm.Cond.code ({ cls := "java/lang/String", name := "checkIndex", desc := "(II)V" } : Jvm.MethodName) jdk_42_method_155_code (2 : Nat) (Option.none : Option Jvm.ClassFile.FieldType), Jvm.Cond.code ({ cls := "jdk/internal/util/Preconditions", name := "checkIndex", desc := "(IILjava/util/function/BiFunction;)I" } : Jvm.MethodName) jdk_41_method_11_code (3 : Nat) (Option.some Jvm.ClassFile.FieldType.int)]
set_option maxRecDepth 65536 in
theorem codes_eq : words1.filter isCode = codes1 := rfl
theorem w_codes : ∀ c ∈ words1.filter isCode, c.before args0 about1 = true := by
  rw [codes_eq]
  intro c hc
  simp only [codes1, List.mem_cons, List.not_mem_nil, or_false] at hc
  rcases hc with rfl | rfl | rfl | rfl | rfl | rfl | rfl | rfl | rfl | rfl | rfl
  · exact w_c0
  · exact w_c1
  · exact w_c2
  · exact w_c3
  · exact w_c4
  · exact w_c5
  · exact w_c6
  · exact w_c7
  · exact w_c8
  · exact w_c9
  · exact w_c10
set_option maxRecDepth 65536 in
theorem w_t1 : (words1.take 24).all (fun c => isCode c || c.before args0 about1) = true := by decide +kernel
set_option maxRecDepth 65536 in
theorem w_t2 : ((words1.drop 24).take 24).all (fun c => isCode c || c.before args0 about1) = true := by decide +kernel
set_option maxRecDepth 65536 in
theorem w_t3 : (((words1.drop 24).drop 24).take 24).all (fun c => isCode c || c.before args0 about1) = true := by decide +kernel
set_option maxRecDepth 65536 in
theorem w_t4 : (((words1.drop 24).drop 24).drop 24).all (fun c => isCode c || c.before args0 about1) = true := by decide +kernel
theorem w_tables : (allAtoms (Jvm.Cond.code x code maxLocals ret :: tables_1)).before args0 about1 = true := by
  rw [allAtoms_all]
  show words1.all (fun c => c.before args0 about1) = true
  refine all_split ?_ w_codes
  rw [← List.take_append_drop 24 words1, List.all_append, w_t1, ← List.take_append_drop 24 (words1.drop 24), List.all_append, w_t2, ← List.take_append_drop 24 ((words1.drop 24).drop 24), List.all_append, w_t3, w_t4]
  rfl
set_option maxRecDepth 65536 in
theorem w_rest : rest_1_c.before args0 about1 = true := by decide +kernel
set_option maxRecDepth 65536 in
theorem w_case : (Jvm.Cond.and given_1 narrow_1).before args0 about1 = true := by decide +kernel
theorem w_applies : (headSpec (Jvm.Cond.code x code maxLocals ret :: tables_1) room_1).applies x e0.platform about1 = true :=
  (Spec.applies_iff w_frames).mpr ⟨w_running, w_runnable, w_alone, w_named, w_hears, w_ripe, w_room, w_tables⟩
theorem atStart : AtStart classFile x code maxLocals ret World_1 tables_1 room_1 Calls_1 rest_1 Pre_1 launch0 p0 e0 about1 theMethod args0 below0 :=
  ⟨lists_1, trivial, launch0.admits_env _ _ _, launch0.least_env, fairChoices_fair.cas, fairChoices_fair.clock, w_frames, w_args, w_heap, w_applies, trivial, w_rest, w_case⟩
end start1
theorem witness_1 : WitnessClaimed_1 := ⟨start1.p0, start1.e0, start1.about1, start1.theMethod, start1.args0, start1.below0, start1.atStart⟩
end Jvm.Pilot.@@N@@
