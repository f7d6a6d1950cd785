import JvmDerived
import JvmDerived.Pilot.@@N@@Statement
import JvmDerived.Pilot.@@N@@Code
set_option linter.unusedVariables false
set_option linter.unusedSimpArgs false
namespace Jvm.Pilot.@@N@@
open Jvm Jvm.ClassFile Sem Op Lib Jvm.Free Jvm.Stand Jvm.LawKit Jvm.RoadKit Bundle Jvm.Pilot.@@N@@.Jvm.D
def Go (p : Program) (e : Env) (below : List Frame) (S : State) (P : State → Outcome → Prop) : Prop := ∃ t o, Steps p.tables e below S t ∧ P t o
abbrev Gm (p : Program) (e : Env) (below : List Frame) (T : State) (m : MethodId) (pc : Nat) (ls : Array Slot) (st : List Value) (P : State → Outcome → Prop) : Prop := Go p e below (T.setTop (mkF m pc ls st)) P
abbrev lv (x : Int64) : Slot := .val (.long x)
theorem own_in {p : Program} {e : Env} {below : List Frame} {T : State} {g g' : JFrame} {P : State → Outcome → Prop} (q : g = g') (h : Go p e below (T.setTop g') P) : ∃ s₂ o, Steps p.tables e below (T.setTop g) s₂ ∧ P s₂ o := q ▸ h
theorem own_go {p : Program} {e : Env} {below : List Frame} {S S' : State} {P : State → Outcome → Prop} (k : ∀ t, Steps p.tables e below S' t → Steps p.tables e below S t) (h : Go p e below S' P) : Go p e below S P := by
  obtain ⟨t, o, h1, h2⟩ := h
  exact ⟨t, o, k t h1, h2⟩
section Rets
variable {p : Program} {l : Launch} {e : Env} {R : Room} {s : State} {m : MethodId} {args : Array Value} {below : List Frame} {meth : Method} {c : Code} {T : State} {locs : List Loc} {cells slots : Nat}
theorem own_retI (X : Stand p l e R s m args below meth c T locs cells slots) (hx : p.tables.exec = Jvm.exec) (hlk : meth.locks = false) {pc : Nat} {Ls : Array Slot} {z : Int32} {t : FieldType} {Q : Option Value → Heap → List Loc → Prop} {C N : Nat} (hret : meth.sig.returnType = some t) (hn : narrow t (.int z) = .int z) (ht : t = .int ∨ t = .boolean ∨ t = .byte ∨ t = .char ∨ t = .short)
    (hd : decode c.code pc = .ok (.ireturn, 1)) {h : Heap} (eh : T.heap = h) (hq : Q (some (.int z)) h locs) (hC : cells ≤ C) (hN : slots ≤ N) : Go p e below (T.setTop (mkF m pc Ls [.int z])) (fun t o => t.status = .running ∧ Ended t below o ∧ ∃ v L, o = .returned v ∧ Q v t.heap L ∧ FrameEnd s o t L C N) := by
  subst eh
  obtain ⟨fs, hr, hrun, hended, hW, hsame⟩ := X.leave (v := some (.int z)) (fun h => by rw [hret] at h; cases h) hlk
  exact ⟨_, _, X.ireturnOut hx hret hn ht hd hr, hrun, hended, _, _, rfl, hq, ⟨_, rfl⟩, hW, hsame.mono hC hN⟩
theorem own_retL (X : Stand p l e R s m args below meth c T locs cells slots) (hx : p.tables.exec = Jvm.exec) (hlk : meth.locks = false) {pc : Nat} {Ls : Array Slot} {z : Int64} {Q : Option Value → Heap → List Loc → Prop} {C N : Nat} (hret : meth.sig.returnType = some .long)
    (hd : decode c.code pc = .ok (.lreturn, 1)) {h : Heap} (eh : T.heap = h) (hq : Q (some (.long z)) h locs) (hC : cells ≤ C) (hN : slots ≤ N) : Go p e below (T.setTop (mkF m pc Ls [.long z])) (fun t o => t.status = .running ∧ Ended t below o ∧ ∃ v L, o = .returned v ∧ Q v t.heap L ∧ FrameEnd s o t L C N) := by
  subst eh
  obtain ⟨fs, hr, hrun, hended, hW, hsame⟩ := X.leave (v := some (.long z)) (fun h => by rw [hret] at h; cases h) hlk
  exact ⟨_, _, X.lreturnOut hx hret hd hr, hrun, hended, _, _, rfl, hq, ⟨_, rfl⟩, hW, hsame.mono hC hN⟩
theorem own_retA (X : Stand p l e R s m args below meth c T locs cells slots) (hx : p.tables.exec = Jvm.exec) (hlk : meth.locks = false) {pc : Nat} {Ls : Array Slot} {w : Value} {t : FieldType} {Q : Option Value → Heap → List Loc → Prop} {C N : Nat} (hw : w.isRef = true) (hret : meth.sig.returnType = some t) (ht : t.isReference = true)
    (hd : decode c.code pc = .ok (.areturn, 1)) {h : Heap} (eh : T.heap = h) (hq : Q (some w) h locs) (hC : cells ≤ C) (hN : slots ≤ N) : Go p e below (T.setTop (mkF m pc Ls [w])) (fun t o => t.status = .running ∧ Ended t below o ∧ ∃ v L, o = .returned v ∧ Q v t.heap L ∧ FrameEnd s o t L C N) := by
  subst eh
  obtain ⟨fs, hr, hrun, hended, hW, hsame⟩ := X.leave (v := some w) (fun h => by rw [hret] at h; cases h) hlk
  exact ⟨_, _, X.areturnOut hx hw hret ht hd hr, hrun, hended, _, _, rfl, hq, ⟨_, rfl⟩, hW, hsame.mono hC hN⟩
theorem own_retV (X : Stand p l e R s m args below meth c T locs cells slots) (hx : p.tables.exec = Jvm.exec) (hlk : meth.locks = false) {pc : Nat} {Ls : Array Slot} {Q : Option Value → Heap → List Loc → Prop} {C N : Nat} (hret : meth.sig.returnType = none)
    (hd : decode c.code pc = .ok (.return_, 1)) {h : Heap} (eh : T.heap = h) (hq : Q none h locs) (hC : cells ≤ C) (hN : slots ≤ N) : Go p e below (T.setTop (mkF m pc Ls [])) (fun t o => t.status = .running ∧ Ended t below o ∧ ∃ v L, o = .returned v ∧ Q v t.heap L ∧ FrameEnd s o t L C N) := by
  subst eh
  obtain ⟨fs, hr, hrun, hended, hW, hsame⟩ := X.leave (v := none) (fun _ => rfl) hlk
  exact ⟨_, _, X.returnOut hx hret hd hr, hrun, hended, _, _, rfl, hq, ⟨_, rfl⟩, hW, hsame.mono hC hN⟩
end Rets
theorem own_eqI {args : Array Value} {first s : State} {o : Option Outcome} {idx : List Nat} {a : Term} {k : Int32} (h : (Jvm.Cond.eq a (.int k)).value args first o s idx = some true) : a.eval args first o idx s = some (.int k) := by
  cases ha : a.eval args first o idx s with
  | none => simp [Cond.value, ha, Term.eval] at h
  | some v => cases v <;> simp [Cond.value, ha, Term.eval] at h <;> first | (subst h; rfl) | (rw [h])

def Af (Z : State) (h : Heap) (a : Addr) (ty : FieldType) (n : Nat) (f : Nat → Value) : Prop := n < 2 ^ 31 ∧ ∃ c : Cell, Arr Z h a c ty ∧ c.slots.size = n ∧ ∀ i, i < n → c.slots[i]? = some (f i) ∧ fits ty (f i) = true
section AfS
variable {Z : State} {h h' : Heap} {a b : Addr} {ty : FieldType} {n : Nat} {f : Nat → Value} {v : Value} {sl : Nat} {ws : List Addr}
theorem Af.lt (A : Af Z h a ty n f) : a < h.size := by obtain ⟨-, c, A, -⟩ := A; exact A.lt
theorem Af.ext (A : Af Z h a ty n f) (E : Ext h h') : Af Z h' a ty n f := by obtain ⟨q, c, A, r⟩ := A; exact ⟨q, c, A.ext E, r⟩
theorem Af.other (A : Af Z h b ty n f) (W : Wr h h' a sl v) (q : b ≠ a) : Af Z h' b ty n f := by obtain ⟨q', c, A, r⟩ := A; exact ⟨q', c, A.other W q, r⟩
theorem Af.keep (A : Af Z h a ty n f) (K : Keep h h' ws) (q : a ∉ ws) : Af Z h' a ty n f := by obtain ⟨q', c, A, r⟩ := A; exact ⟨q', c, ⟨K.2.1 a c A.1 q, A.2⟩, r⟩
theorem Af.congr (A : Af Z h a ty n f) {g : Nat → Value} (q : ∀ i, i < n → g i = f i) : Af Z h a ty n g := by obtain ⟨q', c, A, r1, r2⟩ := A; exact ⟨q', c, A, r1, fun i hi => by rw [q i hi]; exact r2 i hi⟩
theorem Af.set (A : Af Z h a ty n f) (W : Wr h h' a sl v) (hv : fits ty v = true) : Af Z h' a ty n (fun i => if i = sl then v else f i) := by
  obtain ⟨q, c, A, r1, r2⟩ := A
  refine ⟨q, c.setSlot sl v, A.same W, by rw [sz_set]; exact r1, fun i hi => ?_⟩
  by_cases e : i = sl
  · subst e
    show _ = some (if i = i then v else f i) ∧ fits ty (if i = i then v else f i) = true
    rw [if_pos rfl]
    refine ⟨?_, hv⟩
    show (c.slots.setIfInBounds i v)[i]? = _
    rw [Array.getElem?_setIfInBounds_self_of_lt (by omega)]
  · show _ = some (if i = sl then v else f i) ∧ fits ty (if i = sl then v else f i) = true
    rw [if_neg e]
    refine ⟨?_, (r2 i hi).2⟩
    show (c.slots.setIfInBounds sl v)[i]? = _
    rw [Array.getElem?_setIfInBounds_ne (Ne.symm e)]
    exact (r2 i hi).1
theorem Af.new {k : ClassId} {z : Int32} (A : Arr Z h a (newA k ty z) ty) (q : ¬ z < 0) {n : Nat} (hn : z.toNatClampNeg = n) (hd : fits ty (defaultValue ty) = true) : Af Z h a ty n (fun _ => defaultValue ty) := by
  subst hn
  refine ⟨(back32 q).2, _, A, sz_new _ _ _, fun i hi => ⟨?_, hd⟩⟩
  simp [newA, hi]
theorem Af.arv (A : Af Z h a ty n f) (dv : Value) : ∃ k, Arv Z h a k ty n.toInt32 ((List.range n).map f) dv := by
  obtain ⟨q, c, A, r1, r2⟩ := A
  have hz : n.toInt32.toNatClampNeg = n := by
    show n.toInt32.toInt.toNat = n
    rw [len_toInt q]; rfl
  have hg : ∀ i, i < n → ((List.range n).map f).getD i dv = f i := fun i hi => by
    rw [List.getD_eq_getElem?_getD]; simp [hi]
  refine ⟨_, c, A, rfl, by rw [hz]; exact r1, ?_, fun i hi => ?_, fun i hi => ?_⟩
  · rw [Int32.lt_iff_toInt_lt, len_toInt q]; simp
  · rw [hg i (r1 ▸ hi)]; exact (r2 i (r1 ▸ hi)).1
  · rw [hg i (r1 ▸ hi)]; exact (r2 i (r1 ▸ hi)).2
theorem Af.ofArv {k : ClassId} {z : Int32} {vs : List Value} {dv : Value} (F : Arv Z h a k ty z vs dv) (hz : z.toNatClampNeg = n) (hf : ∀ i, i < n → f i = vs.getD i dv) : Af Z h a ty n f := by
  obtain ⟨c, A, -, S, q, H, G⟩ := F
  subst hz
  refine ⟨(back32 q).2, c, A, S, fun i hi => ?_⟩
  rw [hf i hi]
  exact ⟨H i (S ▸ hi), G i (S ▸ hi)⟩
theorem nat32 {n : Nat} (q : n < 2 ^ 31) : n.toInt32.toNatClampNeg = n := by
  show n.toInt32.toInt.toNat = n
  rw [len_toInt q]; rfl
theorem nn32 {n : Nat} (q : n < 2 ^ 31) : ¬ n.toInt32 < 0 := by rw [Int32.lt_iff_toInt_lt, len_toInt q]; simp
end AfS
section AfX
variable {p : Program} {l : Launch} {e : Env} {R : Room} {s : State} {m : MethodId} {args : Array Value} {below : List Frame} {meth : Method} {c : Code} {T : State} {locs : List Loc} {cells slots : Nat} {Z : State} {a0 : Array Value} {h : Heap} {a : Addr} {ty : FieldType} {n : Nat} {f : Nat → Value}
theorem own_len (X : Stand p l e R s m args below meth c T locs cells slots) (hx : p.tables.exec = Jvm.exec) (hZ : Z.Warmed39 s.vm) (eT : T.heap = h) (A : Af Z h a ty n f) {z : Int32} (hz : n.toInt32 = z) {g : JFrame} (hg : g.method = m) {rest : List Value} (hs : g.stack = .ref a :: rest) (hd : decode c.code g.pc = .ok (.arraylength, 1)) {target : State}
    (hr : Steps p.tables e below (T.setTop { g with pc := g.pc + 1, stack := .int z :: rest }) target) : Steps p.tables e below (T.setTop g) target := by
  obtain ⟨q, cl, A, r1, r2⟩ := A
  refine X.arraylength hx (by rw [eT]; exact A.1) (State.isArrayOf_alike hZ.alike A.2.1) hg hs hd _ ?_
  rw [r1, hz]; exact hr
theorem own_inb {cl : Cell} {j : Int32} {k : Nat} (r : cl.slots.size = n) (hj : ¬ j < 0) (hk : j.toNatClampNeg = k) (hkn : k < n) : ¬ (j < 0 ∨ cl.slots.size ≤ j.toNatClampNeg) := by
  rw [r, hk]; rintro (q | q)
  · exact hj q
  · omega
theorem own_ldI (X : Stand p l e R s m args below meth c T locs cells slots) (hx : p.tables.exec = Jvm.exec) (hZ : Z.Warmed39 s.vm) (eT : T.heap = h) (A : Af Z h a .int n f) {j : Int32} {k : Nat} (hj : ¬ j < 0) (hk : j.toNatClampNeg = k) (hkn : k < n) {w : Value} (hv : f k = w) {g : JFrame} (hg : g.method = m) {rest : List Value} (hs : g.stack = .int j :: .ref a :: rest) (hd : decode c.code g.pc = .ok (.iaload, 1)) {target : State}
    (hr : Steps p.tables e below (T.setTop { g with pc := g.pc + 1, stack := w :: rest }) target) : Steps p.tables e below (T.setTop g) target := by
  obtain ⟨q, cl, A, r1, r2⟩ := A
  exact X.iaload hx (by rw [eT]; exact A.1) (State.isArrayOf_alike hZ.alike A.2.1) A.2.2 (own_inb r1 hj hk hkn) (by rw [hk, (r2 k hkn).1, hv]) hg hs hd _ hr
theorem own_ldJ (X : Stand p l e R s m args below meth c T locs cells slots) (hx : p.tables.exec = Jvm.exec) (hZ : Z.Warmed39 s.vm) (eT : T.heap = h) (A : Af Z h a .long n f) {j : Int32} {k : Nat} (hj : ¬ j < 0) (hk : j.toNatClampNeg = k) (hkn : k < n) {w : Value} (hv : f k = w) {g : JFrame} (hg : g.method = m) {rest : List Value} (hs : g.stack = .int j :: .ref a :: rest) (hd : decode c.code g.pc = .ok (.laload, 1)) {target : State}
    (hr : Steps p.tables e below (T.setTop { g with pc := g.pc + 1, stack := w :: rest }) target) : Steps p.tables e below (T.setTop g) target := by
  obtain ⟨q, cl, A, r1, r2⟩ := A
  exact X.laload hx (by rw [eT]; exact A.1) (State.isArrayOf_alike hZ.alike A.2.1) A.2.2 (own_inb r1 hj hk hkn) (by rw [hk, (r2 k hkn).1, hv]) hg hs hd _ hr
theorem own_ldB (X : Stand p l e R s m args below meth c T locs cells slots) (hx : p.tables.exec = Jvm.exec) (hZ : Z.Warmed39 s.vm) (eT : T.heap = h) (A : Af Z h a .byte n f) {j : Int32} {k : Nat} (hj : ¬ j < 0) (hk : j.toNatClampNeg = k) (hkn : k < n) {w : Value} (hv : f k = w) {g : JFrame} (hg : g.method = m) {rest : List Value} (hs : g.stack = .int j :: .ref a :: rest) (hd : decode c.code g.pc = .ok (.baload, 1)) {target : State}
    (hr : Steps p.tables e below (T.setTop { g with pc := g.pc + 1, stack := w :: rest }) target) : Steps p.tables e below (T.setTop g) target := by
  obtain ⟨q, cl, A, r1, r2⟩ := A
  exact X.baloadBytes hx (by rw [eT]; exact A.1) (State.isArrayOf_alike hZ.alike A.2.1) A.2.2 (own_inb r1 hj hk hkn) (by rw [hk, (r2 k hkn).1, hv]) hg hs hd _ hr
theorem own_ldZ (X : Stand p l e R s m args below meth c T locs cells slots) (hx : p.tables.exec = Jvm.exec) (hZ : Z.Warmed39 s.vm) (eT : T.heap = h) (A : Af Z h a .boolean n f) {j : Int32} {k : Nat} (hj : ¬ j < 0) (hk : j.toNatClampNeg = k) (hkn : k < n) {w : Value} (hv : f k = w) {g : JFrame} (hg : g.method = m) {rest : List Value} (hs : g.stack = .int j :: .ref a :: rest) (hd : decode c.code g.pc = .ok (.baload, 1)) {target : State}
    (hr : Steps p.tables e below (T.setTop { g with pc := g.pc + 1, stack := w :: rest }) target) : Steps p.tables e below (T.setTop g) target := by
  obtain ⟨q, cl, A, r1, r2⟩ := A
  exact X.baloadBooleans hx (by rw [eT]; exact A.1) (State.isArrayOf_alike hZ.alike A.2.1) A.2.2 (own_inb r1 hj hk hkn) (by rw [hk, (r2 k hkn).1, hv]) hg hs hd _ hr
theorem own_stI (X : Stand p l e R s m args below meth c T locs cells slots) (hx : p.tables.exec = Jvm.exec) (hZ : Z.Warmed39 s.vm) (eT : T.heap = h) (A : Af Z h a .int n f) {j x : Int32} {k : Nat} (hj : ¬ j < 0) (hk : j.toNatClampNeg = k) (hkn : k < n) {g : JFrame} (hg : g.method = m) {rest : List Value} (hs : g.stack = .int x :: .int j :: .ref a :: rest) (hd : decode c.code g.pc = .ok (.iastore, 1)) :
    ∃ T' h', Stand p l e R s m args below meth c T' (locs ++ [⟨a, k⟩]) cells slots ∧ T'.heap = h' ∧ Wr h h' a k (.int x) ∧ Af Z h' a .int n (fun i => if i = k then .int x else f i) ∧ ∀ target, Steps p.tables e below (T'.setTop { g with pc := g.pc + 1, stack := rest }) target → Steps p.tables e below (T.setTop g) target := by
  obtain ⟨q, cl, B, r1, r2⟩ := id A
  obtain ⟨T', h', X', e', W, st⟩ := stI X hx hZ eT B (own_inb r1 hj hk hkn) hg hs hd
  rw [hk] at X' W
  exact ⟨T', h', X', e', W, A.set W rfl, st⟩
theorem own_stJ (X : Stand p l e R s m args below meth c T locs cells slots) (hx : p.tables.exec = Jvm.exec) (hZ : Z.Warmed39 s.vm) (eT : T.heap = h) (A : Af Z h a .long n f) {j : Int32} {x : Int64} {k : Nat} (hj : ¬ j < 0) (hk : j.toNatClampNeg = k) (hkn : k < n) {g : JFrame} (hg : g.method = m) {rest : List Value} (hs : g.stack = .long x :: .int j :: .ref a :: rest) (hd : decode c.code g.pc = .ok (.lastore, 1)) :
    ∃ T' h', Stand p l e R s m args below meth c T' (locs ++ [⟨a, k⟩]) cells slots ∧ T'.heap = h' ∧ Wr h h' a k (.long x) ∧ Af Z h' a .long n (fun i => if i = k then .long x else f i) ∧ ∀ target, Steps p.tables e below (T'.setTop { g with pc := g.pc + 1, stack := rest }) target → Steps p.tables e below (T.setTop g) target := by
  obtain ⟨q, cl, B, r1, r2⟩ := id A
  obtain ⟨T', h', X', e', W, st⟩ := stJ X hx hZ eT B (own_inb r1 hj hk hkn) hg hs hd
  rw [hk] at X' W
  exact ⟨T', h', X', e', W, A.set W rfl, st⟩
theorem own_stD (X : Stand p l e R s m args below meth c T locs cells slots) (hx : p.tables.exec = Jvm.exec) (hZ : Z.Warmed39 s.vm) (eT : T.heap = h) (A : Af Z h a .double n f) {j : Int32} {x : UInt64} {k : Nat} (hj : ¬ j < 0) (hk : j.toNatClampNeg = k) (hkn : k < n) {g : JFrame} (hg : g.method = m) {rest : List Value} (hs : g.stack = .double x :: .int j :: .ref a :: rest) (hd : decode c.code g.pc = .ok (.dastore, 1)) :
    ∃ T' h', Stand p l e R s m args below meth c T' (locs ++ [⟨a, k⟩]) cells slots ∧ T'.heap = h' ∧ Wr h h' a k (.double x) ∧ Af Z h' a .double n (fun i => if i = k then .double x else f i) ∧ ∀ target, Steps p.tables e below (T'.setTop { g with pc := g.pc + 1, stack := rest }) target → Steps p.tables e below (T.setTop g) target := by
  obtain ⟨q, cl, B, r1, r2⟩ := id A
  obtain ⟨T', h', X', e', W, st⟩ := stD X hx hZ eT B (own_inb r1 hj hk hkn) hg hs hd
  rw [hk] at X' W
  exact ⟨T', h', X', e', W, A.set W rfl, st⟩
theorem own_stZ (X : Stand p l e R s m args below meth c T locs cells slots) (hx : p.tables.exec = Jvm.exec) (hZ : Z.Warmed39 s.vm) (eT : T.heap = h) (A : Af Z h a .boolean n f) {j x y : Int32} {k : Nat} (hj : ¬ j < 0) (hk : j.toNatClampNeg = k) (hkn : k < n) (hy : nar .boolean x = y) {g : JFrame} (hg : g.method = m) {rest : List Value} (hs : g.stack = .int x :: .int j :: .ref a :: rest) (hd : decode c.code g.pc = .ok (.bastore, 1)) :
    ∃ T' h', Stand p l e R s m args below meth c T' (locs ++ [⟨a, k⟩]) cells slots ∧ T'.heap = h' ∧ Wr h h' a k (.int y) ∧ Af Z h' a .boolean n (fun i => if i = k then .int y else f i) ∧ ∀ target, Steps p.tables e below (T'.setTop { g with pc := g.pc + 1, stack := rest }) target → Steps p.tables e below (T.setTop g) target := by
  obtain ⟨q, cl, B, r1, r2⟩ := id A
  obtain ⟨T', h', X', e', W, st⟩ := stZ X hx hZ eT B (own_inb r1 hj hk hkn) hg hs hd
  subst hk hy
  exact ⟨T', h', X', e', W, A.set W (fits_nar_bool x), st⟩
theorem own_stB (X : Stand p l e R s m args below meth c T locs cells slots) (hx : p.tables.exec = Jvm.exec) (hZ : Z.Warmed39 s.vm) (eT : T.heap = h) (A : Af Z h a .byte n f) {j x y : Int32} {k : Nat} (hj : ¬ j < 0) (hk : j.toNatClampNeg = k) (hkn : k < n) (hy : nar .byte x = y) {g : JFrame} (hg : g.method = m) {rest : List Value} (hs : g.stack = .int x :: .int j :: .ref a :: rest) (hd : decode c.code g.pc = .ok (.bastore, 1)) :
    ∃ T' h', Stand p l e R s m args below meth c T' (locs ++ [⟨a, k⟩]) cells slots ∧ T'.heap = h' ∧ Wr h h' a k (.int y) ∧ Af Z h' a .byte n (fun i => if i = k then .int y else f i) ∧ ∀ target, Steps p.tables e below (T'.setTop { g with pc := g.pc + 1, stack := rest }) target → Steps p.tables e below (T.setTop g) target := by
  obtain ⟨q, cl, B, r1, r2⟩ := id A
  obtain ⟨T', h', X', e', W, st⟩ := stB X hx hZ eT B (own_inb r1 hj hk hkn) hg hs hd
  subst hk hy
  exact ⟨T', h', X', e', W, A.set W (fits_nar_byte x), st⟩
end AfX

theorem own_lenz {args : Array Value} {s : State} {t : Term} {a : Addr} {cl : Cell} {ty : FieldType} {z : Int32} {n : Nat} (h : (Term.length t).eval args s none [] s = some (.int z)) (ev : t.eval args s none [] s = some (.ref a)) (A : Arr s s.heap a cl ty) (hz : z.toNatClampNeg = n) : n < 2 ^ 31 ∧ cl.slots.size = n := by
  have hc : s.arrayAt? a = some cl := Arr.fin (Vm.Alike.refl _) A
  by_cases hn : cl.slots.size < 2 ^ 31
  · have q := (len_f (t := t) ev hc hn).symm.trans h
    have q' : cl.slots.size.toInt32 = z := by injection q with q; injection q
    have : cl.slots.size = n := by rw [← hz, ← q']; exact (nat32 hn).symm
    exact ⟨this ▸ hn, this⟩
  · exfalso
    obtain ⟨a', c', e1, e2, -⟩ := Term.length_spec h
    simp [Term.eval, ev, hc, hn] at h
theorem own_af {s : State} {a : Addr} {cl : Cell} {ty : FieldType} {n : Nat} (hf : Fit s) (A : Arr s s.heap a cl ty) (hn : n < 2 ^ 31 ∧ cl.slots.size = n) : Af s s.heap a ty n (fun i => (cl.slots[i]?).getD .null) := by
  refine ⟨hn.1, cl, A, hn.2, fun i hi => ?_⟩
  have hi' : i < cl.slots.size := by rw [hn.2]; exact hi
  have q := FitC.start hf A i _ (Array.getElem?_eq_getElem hi')
  have e : cl.slots[i]? = some cl.slots[i] := Array.getElem?_eq_getElem hi'
  show cl.slots[i]? = some ((cl.slots[i]?).getD .null) ∧ fits ty ((cl.slots[i]?).getD .null) = true
  rw [e]
  refine ⟨rfl, ?_⟩
  obtain ⟨hs, k, hk, comp, hkind⟩ := A.2.1
  have u : s.slotType? cl.cls .none i = some ty := by simp [State.slotType?, hk, hkind]
  simpa [State.fitsSlot, u] using q
theorem own_neq0 {args : Array Value} {first s : State} {o : Option Outcome} {idx : List Nat} {a : Term} (h : (Jvm.Cond.eq a (.int 0)).value args first o s idx = some false) (e : a.eval args first o idx s = some (.int 0)) : False := by
  simp [Cond.value, e, Term.int_eval] at h
def chOf (b : Int32) : Int32 := (b &&& (255 : Int32)).toUInt32.toUInt16.toUInt32.toInt32
theorem d8_0 : decode jdk_41_method_11_code 0 = .ok (.iload_n 0, 1) := by decide +kernel
theorem d8_1 : decode jdk_41_method_11_code 1 = .ok (.ifCond .lt 8, 3) := by decide +kernel
theorem d8_4 : decode jdk_41_method_11_code 4 = .ok (.iload_n 0, 1) := by decide +kernel
theorem d8_5 : decode jdk_41_method_11_code 5 = .ok (.iload_n 1, 1) := by decide +kernel
theorem d8_6 : decode jdk_41_method_11_code 6 = .ok (.if_icmp .lt 10, 3) := by decide +kernel
theorem d8_16 : decode jdk_41_method_11_code 16 = .ok (.iload_n 0, 1) := by decide +kernel
theorem d8_17 : decode jdk_41_method_11_code 17 = .ok (.ireturn, 1) := by decide +kernel
theorem own_pn_rm8 : plainName "jdk/internal/util/Preconditions" = true := by first | (simp [plainName, overriddenIn]; done) | decide +kernel
theorem own_ef_rm8 (m : MethodId) (p0 : Int32) (p1 : Int32) (r2 : Value) (hv_r2 : r2.isRef = true) : entryFrame m #[(.int p0), (.int p1), r2] 3 = mkF m 0 #[.val (.int p0), .val (.int p1), .val r2] [] := by rcases XT.refc hv_r2 with rfl | ⟨r, rfl⟩ <;> first | (simp [entryFrame, mkF, argsToLocals, Value.category]; done) | rfl
def Q8 (Z : State) (p0 : Int32) (p1 : Int32) (r2 : Value) (h0 : Heap) (n0 : Nat) (v : Option Value) (h : Heap) (L : List Loc) : Prop := v = some (.int p0) ∧ Fr n0 L ∧ h = h0
set_option maxRecDepth 65536 in
set_option maxHeartbeats 40000000 in
theorem rm8 (l : Launch) (Z : State) (a0 : Array Value) (hw : ∀ d ∈ tables_1, d.before a0 Z = true) (ws : List Jvm.Cond) (p0 : Int32) (p1 : Int32) (r2 : Value) (h0 : Heap) (n0 : Nat) (Z0 : n0 ≤ h0.size) (hv_r2 : r2.isRef = true) (hlo : ¬ p0 < 0) (hhi : p0 < p1) :
    MetFree l (⟨"jdk/internal/util/Preconditions", "checkIndex", "(IILjava/util/function/BiFunction;)I"⟩ : MethodName) (head1 (Jvm.Cond.code (⟨"jdk/internal/util/Preconditions", "checkIndex", "(IILjava/util/function/BiFunction;)I"⟩ : MethodName) jdk_41_method_11_code 3 (some .int) :: ws) ({ frames := 0, cells := 0, slots := 0, locals := 0 } : Room)) (fun a U => a = #[(.int p0), (.int p1), r2] ∧ Z.Warmed39 U.vm ∧ U.heap = h0) (fun _ _ _ _ _ => True) (fun _ U o U' => ∃ v L, o = .returned v ∧ Q8 Z p0 p1 r2 h0 n0 v U'.heap L ∧ FrameEnd U o U' L ({ frames := 0, cells := 0, slots := 0, locals := 0 } : Room).cells ({ frames := 0, cells := 0, slots := 0, locals := 0 } : Room).slots) := by
  refine MetFree.of_bodySF (plainFor_of_name own_pn_rm8) hisR ?_
  intro p e s m args below meth c s₁ Bd hml0 hP hK
  obtain ⟨rfl, hZ, hh⟩ := hP
  have hx := Bd.exec
  have hby := Bd.bytes
  have hml : c.maxLocals = 3 := hml0
  have hown : s.vm.findClass "jdk/internal/util/Preconditions" = some m.cls := findClass_of_methodNamed Bd.named
  have hnm := (name_of_methodNamed Bd.named Bd.method).1
  have hlk : meth.locks = false := BodyLoose.notSynchronized Bd
  have X0 : Stand p l e ({ frames := 0, cells := 0, slots := 0, locals := 0 } : Room) s m #[(.int p0), (.int p1), r2] below meth c s₁ [] 0 0 := Stand.of_body Bd
  have e0 : s₁.heap = h0 := by rw [← hh, Bd.state]; rfl
  have N0 := Fr.nil n0
  refine own_in (own_ef_rm8 m p0 p1 r2 hv_r2) ?_
  show Gm p e below s₁ m 0 #[iv p0, iv p1, .val r2] [] _
  refine own_go (fun t₀ k₀ => XS.iloadN X0.here hx rfl (Jvm.hb hby d8_0) rfl k₀) ?_
  show Gm p e below s₁ m 1 #[iv p0, iv p1, .val r2] [(.int p0)] _
  refine own_go (fun t₀ k₀ => XS.ifNo X0.here hx rfl (Jvm.hb hby d8_1) rfl (XT.i0_lt_f hlo) k₀) ?_
  show Gm p e below s₁ m 4 #[iv p0, iv p1, .val r2] [] _
  refine own_go (fun t₀ k₀ => XS.iloadN X0.here hx rfl (Jvm.hb hby d8_4) rfl k₀) ?_
  show Gm p e below s₁ m 5 #[iv p0, iv p1, .val r2] [(.int p0)] _
  refine own_go (fun t₀ k₀ => XS.iloadN X0.here hx rfl (Jvm.hb hby d8_5) rfl k₀) ?_
  show Gm p e below s₁ m 6 #[iv p0, iv p1, .val r2] [(.int p1), (.int p0)] _
  refine own_go (fun t₀ k₀ => XS.icmpYes X0.here hx rfl (pc0 := 6) (pc' := 16) rfl (Jvm.hb hby d8_6) rfl (XT.ii_lt_t hhi) (by decide) (by decide) k₀) ?_
  show Gm p e below s₁ m 16 #[iv p0, iv p1, .val r2] [] _
  refine own_go (fun t₀ k₀ => XS.iloadN X0.here hx rfl (Jvm.hb hby d8_16) rfl k₀) ?_
  show Gm p e below s₁ m 17 #[iv p0, iv p1, .val r2] [(.int p0)] _
  exact own_retI X0 hx hlk (t := .int) Bd.returns rfl (by simp) (Jvm.hb hby d8_17) e0 ⟨rfl, N0, rfl⟩ (by decide) (by decide)
theorem d7_0 : decode jdk_42_method_155_code 0 = .ok (.iload_n 0, 1) := by decide +kernel
theorem d7_1 : decode jdk_42_method_155_code 1 = .ok (.iload_n 1, 1) := by decide +kernel
theorem d7_2 : decode jdk_42_method_155_code 2 = .ok (.getstatic 1053, 3) := by decide +kernel
theorem d7_5 : decode jdk_42_method_155_code 5 = .ok (.invokestatic 1059, 3) := by decide +kernel
theorem d7_8 : decode jdk_42_method_155_code 8 = .ok (.pop, 1) := by decide +kernel
theorem d7_9 : decode jdk_42_method_155_code 9 = .ok (.return_, 1) := by decide +kernel
theorem own_pd0 : parseMethodDescriptor "(IILjava/util/function/BiFunction;)I" = some ⟨[.int, .int, (.object "java/util/function/BiFunction")], some .int⟩ := by decide +kernel
theorem own_pn_rm7 : plainName "java/lang/String" = true := by first | (simp [plainName, overriddenIn]; done) | decide +kernel
theorem own_ef_rm7 (m : MethodId) (p0 : Int32) (p1 : Int32) : entryFrame m #[(.int p0), (.int p1)] 2 = mkF m 0 #[.val (.int p0), .val (.int p1)] [] := by first | (simp [entryFrame, mkF, argsToLocals, Value.category]; done) | rfl
def Q7 (Z : State) (p0 : Int32) (p1 : Int32) (w : Value) (h0 : Heap) (n0 : Nat) (v : Option Value) (h : Heap) (L : List Loc) : Prop := v = none ∧ Fr n0 L ∧ h = h0
set_option maxRecDepth 65536 in
set_option maxHeartbeats 40000000 in
theorem rm7 (l : Launch) (Z : State) (a0 : Array Value) (hw : ∀ d ∈ tables_1, d.before a0 Z = true) (ws : List Jvm.Cond) (p0 : Int32) (p1 : Int32) (w : Value) (h0 : Heap) (n0 : Nat) (Z0 : n0 ≤ h0.size) (S_f : Sta Z h0 "jdk/internal/util/Preconditions" "SIOOBE_FORMATTER" "Ljava/util/function/BiFunction;" w) (hv_w : w.isRef = true) (hlo : ¬ p0 < 0) (hhi : p0 < p1) :
    MetFree l (⟨"java/lang/String", "checkIndex", "(II)V"⟩ : MethodName) (head1 (Jvm.Cond.code (⟨"java/lang/String", "checkIndex", "(II)V"⟩ : MethodName) jdk_42_method_155_code 2 none :: ws) ({ frames := 1, cells := 0, slots := 0, locals := 14 } : Room)) (fun a U => a = #[(.int p0), (.int p1)] ∧ Z.Warmed39 U.vm ∧ U.heap = h0) (fun _ _ _ _ _ => True) (fun _ U o U' => ∃ v L, o = .returned v ∧ Q7 Z p0 p1 w h0 n0 v U'.heap L ∧ FrameEnd U o U' L ({ frames := 1, cells := 0, slots := 0, locals := 14 } : Room).cells ({ frames := 1, cells := 0, slots := 0, locals := 14 } : Room).slots) := by
  refine MetFree.of_bodySF (plainFor_of_name own_pn_rm7) hisR ?_
  intro p e s m args below meth c s₁ Bd hml0 hP hK
  obtain ⟨rfl, hZ, hh⟩ := hP
  have hx := Bd.exec
  have hby := Bd.bytes
  have hml : c.maxLocals = 2 := hml0
  have hown : s.vm.findClass "java/lang/String" = some m.cls := findClass_of_methodNamed Bd.named
  have hnm := (name_of_methodNamed Bd.named Bd.method).1
  have hlk : meth.locks = false := BodyLoose.notSynchronized Bd
  have X0 : Stand p l e ({ frames := 1, cells := 0, slots := 0, locals := 14 } : Room) s m #[(.int p0), (.int p1)] below meth c s₁ [] 0 0 := Stand.of_body Bd
  have e0 : s₁.heap = h0 := by rw [← hh, Bd.state]; rfl
  have N0 := Fr.nil n0
  refine own_in (own_ef_rm7 m p0 p1) ?_
  show Gm p e below s₁ m 0 #[iv p0, iv p1] [] _
  refine own_go (fun t₀ k₀ => XS.iloadN X0.here hx rfl (Jvm.hb hby d7_0) rfl k₀) ?_
  show Gm p e below s₁ m 1 #[iv p0, iv p1] [(.int p0)] _
  refine own_go (fun t₀ k₀ => XS.iloadN X0.here hx rfl (Jvm.hb hby d7_1) rfl k₀) ?_
  show Gm p e below s₁ m 2 #[iv p0, iv p1] [(.int p1), (.int p0)] _
  obtain ⟨T1, X1, e1, st1⟩ := getS2 X0 hx hZ hown (host := "") (Or.inl (hw _ (List.mem_of_getElem? (i := 40) rfl))) Via.refl e0 S_f (g := (mkF m 2 #[iv p0, iv p1] [(.int p1), (.int p0)])) rfl (Jvm.hb hby d7_2)
  refine own_go st1 ?_
  show Gm p e below T1 m 5 #[iv p0, iv p1] [w, (.int p1), (.int p0)] _
  obtain ⟨_, _, ⟨T2, L2, k2, n2⟩, -, X2, ⟨Lc2, hQ2, l2, y2, z2⟩, st2⟩ := Jvm.LawKit.callS X1 hx (y := (⟨"jdk/internal/util/Preconditions", "checkIndex", "(IILjava/util/function/BiFunction;)I"⟩ : MethodName)) hown (mvT hZ (hw _ (List.mem_of_getElem? (i := 42) rfl))) (mvT hZ (hw _ (List.mem_of_getElem? (i := 43) rfl))) (mvT hZ (hw _ (List.mem_of_getElem? (i := 41) rfl))) (mvT hZ (hw _ (List.mem_of_getElem? (i := 44) rfl))) (by decide) (backOf (W := 0) (rm8 l Z a0 hw [] p0 p1 w h0 n0 Z0 hv_w hlo hhi) hZ (hw _ (List.mem_of_getElem? (i := 44) rfl)) (hw _ (List.mem_of_getElem? (i := 41) rfl)) (by decide) (by decide)) (g := (mkF m 5 #[iv p0, iv p1] [w, (.int p1), (.int p0)])) rfl (by rw [hml]; rfl) (argsL := [(.int p0), (.int p1), w]) (rest := []) (lenOf own_pd0 rfl) rfl (by show 2 * 0 + _ ≤ _; exact Nat.le_of_eq rfl) (Jvm.hb hby d7_5) (fun _ _ => ⟨rfl, e1, (by decide : 0 + 0 ≤ _), (by decide : 0 + 0 ≤ _)⟩)
  dsimp only [Pt.U, Pt.locs, Pt.cells, Pt.slots] at X2 l2 y2 z2 st2 hQ2
  subst l2 y2 z2
  obtain ⟨rfl, Nq2, eq2⟩ := hQ2
  have N2 := Fr.app N0 Nq2
  have e2 : T2.heap = h0 := eq2
  refine own_go st2 ?_
  show Gm p e below T2 m 8 #[iv p0, iv p1] [(.int p0)] _
  refine own_go (fun t₀ k₀ => XS.pop X2.here hx rfl (Jvm.hb hby d7_8) rfl rfl k₀) ?_
  show Gm p e below T2 m 9 #[iv p0, iv p1] [] _
  exact own_retV X2 hx hlk Bd.returns (Jvm.hb hby d7_9) e2 ⟨rfl, N2, rfl⟩ (by decide) (by decide)
theorem d6_0 : decode jdk_43_method_2_code 0 = .ok (.iload_n 1, 1) := by decide +kernel
theorem d6_1 : decode jdk_43_method_2_code 1 = .ok (.aload_n 0, 1) := by decide +kernel
theorem d6_2 : decode jdk_43_method_2_code 2 = .ok (.arraylength, 1) := by decide +kernel
theorem d6_3 : decode jdk_43_method_2_code 3 = .ok (.invokestatic 9, 3) := by decide +kernel
theorem d6_6 : decode jdk_43_method_2_code 6 = .ok (.aload_n 0, 1) := by decide +kernel
theorem d6_7 : decode jdk_43_method_2_code 7 = .ok (.iload_n 1, 1) := by decide +kernel
theorem d6_8 : decode jdk_43_method_2_code 8 = .ok (.baload, 1) := by decide +kernel
theorem d6_9 : decode jdk_43_method_2_code 9 = .ok (.sipush 255, 3) := by decide +kernel
theorem d6_12 : decode jdk_43_method_2_code 12 = .ok (.iand, 1) := by decide +kernel
theorem d6_13 : decode jdk_43_method_2_code 13 = .ok (.i2c, 1) := by decide +kernel
theorem d6_14 : decode jdk_43_method_2_code 14 = .ok (.ireturn, 1) := by decide +kernel
theorem own_pd1 : parseMethodDescriptor "(II)V" = some ⟨[.int, .int], none⟩ := by decide +kernel
theorem own_pn_rm6 : plainName "java/lang/StringLatin1" = true := by first | (simp [plainName, overriddenIn]; done) | decide +kernel
theorem own_ef_rm6 (m : MethodId) (r0 : Addr) (p1 : Int32) : entryFrame m #[(.ref r0), (.int p1)] 2 = mkF m 0 #[.val (.ref r0), .val (.int p1)] [] := by first | (simp [entryFrame, mkF, argsToLocals, Value.category]; done) | rfl
def Q6 (Z : State) (r0 : Addr) (p1 : Int32) (n : Nat) (f : Nat → Value) (b : Int32) (w : Value) (h0 : Heap) (n0 : Nat) (v : Option Value) (h : Heap) (L : List Loc) : Prop := v = some (.int (chOf b)) ∧ Fr n0 L ∧ h = h0
set_option maxRecDepth 65536 in
set_option maxHeartbeats 40000000 in
theorem rm6 (l : Launch) (Z : State) (a0 : Array Value) (hw : ∀ d ∈ tables_1, d.before a0 Z = true) (ws : List Jvm.Cond) (r0 : Addr) (p1 : Int32) (n : Nat) (f : Nat → Value) (b : Int32) (w : Value) (h0 : Heap) (n0 : Nat) (Z0 : n0 ≤ h0.size) (A : Af Z h0 r0 .byte n f) (hlo : ¬ p1 < 0) (hhi : p1 < n.toInt32) (hk : p1.toNatClampNeg < n) (hb : f p1.toNatClampNeg = .int b) (S_f : Sta Z h0 "jdk/internal/util/Preconditions" "SIOOBE_FORMATTER" "Ljava/util/function/BiFunction;" w) (hv_w : w.isRef = true) :
    MetFree l (⟨"java/lang/StringLatin1", "charAt", "([BI)C"⟩ : MethodName) (head1 (Jvm.Cond.code (⟨"java/lang/StringLatin1", "charAt", "([BI)C"⟩ : MethodName) jdk_43_method_2_code 2 (some .char) :: ws) ({ frames := 2, cells := 0, slots := 0, locals := 27 } : Room)) (fun a U => a = #[(.ref r0), (.int p1)] ∧ Z.Warmed39 U.vm ∧ U.heap = h0) (fun _ _ _ _ _ => True) (fun _ U o U' => ∃ v L, o = .returned v ∧ Q6 Z r0 p1 n f b w h0 n0 v U'.heap L ∧ FrameEnd U o U' L ({ frames := 2, cells := 0, slots := 0, locals := 27 } : Room).cells ({ frames := 2, cells := 0, slots := 0, locals := 27 } : Room).slots) := by
  refine MetFree.of_bodySF (plainFor_of_name own_pn_rm6) hisR ?_
  intro p e s m args below meth c s₁ Bd hml0 hP hK
  obtain ⟨rfl, hZ, hh⟩ := hP
  have hx := Bd.exec
  have hby := Bd.bytes
  have hml : c.maxLocals = 2 := hml0
  have hown : s.vm.findClass "java/lang/StringLatin1" = some m.cls := findClass_of_methodNamed Bd.named
  have hnm := (name_of_methodNamed Bd.named Bd.method).1
  have hlk : meth.locks = false := BodyLoose.notSynchronized Bd
  have X0 : Stand p l e ({ frames := 2, cells := 0, slots := 0, locals := 27 } : Room) s m #[(.ref r0), (.int p1)] below meth c s₁ [] 0 0 := Stand.of_body Bd
  have e0 : s₁.heap = h0 := by rw [← hh, Bd.state]; rfl
  have N0 := Fr.nil n0
  refine own_in (own_ef_rm6 m r0 p1) ?_
  show Gm p e below s₁ m 0 #[rv r0, iv p1] [] _
  refine own_go (fun t₀ k₀ => XS.iloadN X0.here hx rfl (Jvm.hb hby d6_0) rfl k₀) ?_
  show Gm p e below s₁ m 1 #[rv r0, iv p1] [(.int p1)] _
  refine own_go (fun t₀ k₀ => XS.aloadN X0.here hx rfl (Jvm.hb hby d6_1) rfl rfl k₀) ?_
  show Gm p e below s₁ m 2 #[rv r0, iv p1] [(.ref r0), (.int p1)] _
  refine own_go (fun t₀ k₀ => own_len X0 hx hZ e0 A (z := n.toInt32) rfl (g := (mkF m 2 #[rv r0, iv p1] [(.ref r0), (.int p1)])) rfl rfl (Jvm.hb hby d6_2) k₀) ?_
  show Gm p e below s₁ m 3 #[rv r0, iv p1] [(.int n.toInt32), (.int p1)] _
  obtain ⟨_, _, ⟨T1, L1, k1, n1⟩, -, X1, ⟨Lc1, hQ1, l1, y1, z1⟩, st1⟩ := Jvm.LawKit.callS X0 hx (y := (⟨"java/lang/String", "checkIndex", "(II)V"⟩ : MethodName)) hown (mvT hZ (hw _ (List.mem_of_getElem? (i := 37) rfl))) (mvT hZ (hw _ (List.mem_of_getElem? (i := 38) rfl))) (mvT hZ (hw _ (List.mem_of_getElem? (i := 21) rfl))) (mvT hZ (hw _ (List.mem_of_getElem? (i := 39) rfl))) (by decide) (backOf (W := 0) (rm7 l Z a0 hw [] p1 n.toInt32 w h0 n0 Z0 S_f hv_w hlo hhi) hZ (hw _ (List.mem_of_getElem? (i := 39) rfl)) (hw _ (List.mem_of_getElem? (i := 21) rfl)) (by decide) (by decide)) (g := (mkF m 3 #[rv r0, iv p1] [(.int n.toInt32), (.int p1)])) rfl (by rw [hml]; rfl) (argsL := [(.int p1), (.int n.toInt32)]) (rest := []) (lenOf own_pd1 rfl) rfl (by show 2 * 0 + _ ≤ _; exact Nat.le_of_eq rfl) (Jvm.hb hby d6_3) (fun _ _ => ⟨rfl, e0, (by decide : 0 + 0 ≤ _), (by decide : 0 + 0 ≤ _)⟩)
  dsimp only [Pt.U, Pt.locs, Pt.cells, Pt.slots] at X1 l1 y1 z1 st1 hQ1
  subst l1 y1 z1
  obtain ⟨rfl, Nq1, eq1⟩ := hQ1
  have N1 := Fr.app N0 Nq1
  have e1 : T1.heap = h0 := eq1
  refine own_go st1 ?_
  show Gm p e below T1 m 6 #[rv r0, iv p1] [] _
  refine own_go (fun t₀ k₀ => XS.aloadN X1.here hx rfl (Jvm.hb hby d6_6) rfl rfl k₀) ?_
  show Gm p e below T1 m 7 #[rv r0, iv p1] [(.ref r0)] _
  refine own_go (fun t₀ k₀ => XS.iloadN X1.here hx rfl (Jvm.hb hby d6_7) rfl k₀) ?_
  show Gm p e below T1 m 8 #[rv r0, iv p1] [(.int p1), (.ref r0)] _
  refine own_go (fun t₀ k₀ => own_ldB X1 hx hZ e1 A (j := p1) (k := p1.toNatClampNeg) hlo rfl hk (w := (.int b)) hb (g := (mkF m 8 #[rv r0, iv p1] [(.int p1), (.ref r0)])) rfl rfl (Jvm.hb hby d6_8) k₀) ?_
  show Gm p e below T1 m 9 #[rv r0, iv p1] [(.int b)] _
  refine own_go (fun t₀ k₀ => XS.sipush X1.here hx rfl (Jvm.hb hby d6_9) k₀) ?_
  show Gm p e below T1 m 12 #[rv r0, iv p1] [(.int (255 : Int32)), (.int b)] _
  refine own_go (fun t₀ k₀ => XS.iand X1.here hx rfl (Jvm.hb hby d6_12) rfl k₀) ?_
  show Gm p e below T1 m 13 #[rv r0, iv p1] [(.int (b &&& (255 : Int32)))] _
  refine own_go (fun t₀ k₀ => XS.i2c X1.here hx rfl (Jvm.hb hby d6_13) rfl k₀) ?_
  show Gm p e below T1 m 14 #[rv r0, iv p1] [(.int ((b &&& (255 : Int32)).toUInt32.toUInt16.toUInt32.toInt32))] _
  exact own_retI X1 hx hlk (t := .char) Bd.returns (XT.narrow_c _) (by simp) (Jvm.hb hby d6_14) e1 ⟨rfl, N1, rfl⟩ (by decide) (by decide)
theorem d5_0 : decode jdk_42_method_154_code 0 = .ok (.getstatic 38, 3) := by decide +kernel
theorem d5_3 : decode jdk_42_method_154_code 3 = .ok (.ifCond .eq 14, 3) := by decide +kernel
theorem d5_6 : decode jdk_42_method_154_code 6 = .ok (.aload_n 0, 1) := by decide +kernel
theorem d5_7 : decode jdk_42_method_154_code 7 = .ok (.getfield 15, 3) := by decide +kernel
theorem d5_10 : decode jdk_42_method_154_code 10 = .ok (.ifCond .ne 7, 3) := by decide +kernel
theorem d5_13 : decode jdk_42_method_154_code 13 = .ok (.iconst 1, 1) := by decide +kernel
theorem d5_14 : decode jdk_42_method_154_code 14 = .ok (.goto 4, 3) := by decide +kernel
theorem d5_18 : decode jdk_42_method_154_code 18 = .ok (.ireturn, 1) := by decide +kernel
theorem own_pn_rm5 : plainName "java/lang/String" = true := by first | (simp [plainName, overriddenIn]; done) | decide +kernel
theorem own_ef_rm5 (m : MethodId) (r0 : Addr) : entryFrame m #[(.ref r0)] 1 = mkF m 0 #[.val (.ref r0)] [] := by first | (simp [entryFrame, mkF, argsToLocals, Value.category]; done) | rfl
def Q5 (Z : State) (r0 : Addr) (cs : Int32) (h0 : Heap) (n0 : Nat) (v : Option Value) (h : Heap) (L : List Loc) : Prop := v = some (.int 1) ∧ Fr n0 L ∧ h = h0
set_option maxRecDepth 65536 in
set_option maxHeartbeats 40000000 in
theorem rm5 (l : Launch) (Z : State) (a0 : Array Value) (hw : ∀ d ∈ tables_1, d.before a0 Z = true) (ws : List Jvm.Cond) (r0 : Addr) (cs : Int32) (h0 : Heap) (n0 : Nat) (Z0 : n0 ≤ h0.size) (S_c : Sta Z h0 "java/lang/String" "COMPACT_STRINGS" "Z" (.int cs)) (hcs : ¬ cs = 0) (F_c : Fld Z h0 r0 "java/lang/String" "coder" "B" (.int (0 : Int32))) :
    MetFree l (⟨"java/lang/String", "isLatin1", "()Z"⟩ : MethodName) (head1 (Jvm.Cond.code (⟨"java/lang/String", "isLatin1", "()Z"⟩ : MethodName) jdk_42_method_154_code 1 (some .boolean) :: ws) ({ frames := 0, cells := 0, slots := 0, locals := 0 } : Room)) (fun a U => a = #[(.ref r0)] ∧ Z.Warmed39 U.vm ∧ U.heap = h0) (fun _ _ _ _ _ => True) (fun _ U o U' => ∃ v L, o = .returned v ∧ Q5 Z r0 cs h0 n0 v U'.heap L ∧ FrameEnd U o U' L ({ frames := 0, cells := 0, slots := 0, locals := 0 } : Room).cells ({ frames := 0, cells := 0, slots := 0, locals := 0 } : Room).slots) := by
  refine MetFree.of_bodySF (plainFor_of_name own_pn_rm5) hisR ?_
  intro p e s m args below meth c s₁ Bd hml0 hP hK
  obtain ⟨rfl, hZ, hh⟩ := hP
  have hx := Bd.exec
  have hby := Bd.bytes
  have hml : c.maxLocals = 1 := hml0
  have hown : s.vm.findClass "java/lang/String" = some m.cls := findClass_of_methodNamed Bd.named
  have hnm := (name_of_methodNamed Bd.named Bd.method).1
  have hlk : meth.locks = false := BodyLoose.notSynchronized Bd
  have X0 : Stand p l e ({ frames := 0, cells := 0, slots := 0, locals := 0 } : Room) s m #[(.ref r0)] below meth c s₁ [] 0 0 := Stand.of_body Bd
  have e0 : s₁.heap = h0 := by rw [← hh, Bd.state]; rfl
  have N0 := Fr.nil n0
  refine own_in (own_ef_rm5 m r0) ?_
  show Gm p e below s₁ m 0 #[rv r0] [] _
  obtain ⟨T1, X1, e1, st1⟩ := getS2 X0 hx hZ hown (host := "") (Or.inl (hw _ (List.mem_of_getElem? (i := 28) rfl))) Via.refl e0 S_c (g := (mkF m 0 #[rv r0] [])) rfl (Jvm.hb hby d5_0)
  refine own_go st1 ?_
  show Gm p e below T1 m 3 #[rv r0] [(.int cs)] _
  refine own_go (fun t₀ k₀ => XS.ifNo X1.here hx rfl (Jvm.hb hby d5_3) rfl (XT.i0_eq_f hcs) k₀) ?_
  show Gm p e below T1 m 6 #[rv r0] [] _
  refine own_go (fun t₀ k₀ => XS.aloadN X1.here hx rfl (Jvm.hb hby d5_6) rfl rfl k₀) ?_
  show Gm p e below T1 m 7 #[rv r0] [(.ref r0)] _
  obtain ⟨T2, X2, e2, st2⟩ := getF X1 hx hZ hown (host := "") (Or.inl (hw _ (List.mem_of_getElem? (i := 29) rfl))) Via.refl e1 F_c (g := (mkF m 7 #[rv r0] [(.ref r0)])) rfl rfl (Jvm.hb hby d5_7)
  refine own_go st2 ?_
  show Gm p e below T2 m 10 #[rv r0] [(.int (0 : Int32))] _
  refine own_go (fun t₀ k₀ => XS.ifNo X2.here hx rfl (Jvm.hb hby d5_10) rfl (XT.i0_ne_f (by decide)) k₀) ?_
  show Gm p e below T2 m 13 #[rv r0] [] _
  refine own_go (fun t₀ k₀ => XS.iconst X2.here hx rfl (Jvm.hb hby d5_13) k₀) ?_
  show Gm p e below T2 m 14 #[rv r0] [(.int (1 : Int32))] _
  refine own_go (fun t₀ k₀ => XS.goto X2.here hx rfl (pc0 := 14) (pc' := 18) rfl (Jvm.hb hby d5_14) (by decide) (by decide) k₀) ?_
  show Gm p e below T2 m 18 #[rv r0] [(.int (1 : Int32))] _
  exact own_retI X2 hx hlk (t := .boolean) Bd.returns rfl (by simp) (Jvm.hb hby d5_18) e2 ⟨rfl, N0, rfl⟩ (by decide) (by decide)
theorem d4_0 : decode jdk_42_method_56_code 0 = .ok (.aload_n 0, 1) := by decide +kernel
theorem d4_1 : decode jdk_42_method_56_code 1 = .ok (.invokevirtual 492, 3) := by decide +kernel
theorem d4_4 : decode jdk_42_method_56_code 4 = .ok (.ifCond .eq 12, 3) := by decide +kernel
theorem d4_7 : decode jdk_42_method_56_code 7 = .ok (.aload_n 0, 1) := by decide +kernel
theorem d4_8 : decode jdk_42_method_56_code 8 = .ok (.getfield 9, 3) := by decide +kernel
theorem d4_11 : decode jdk_42_method_56_code 11 = .ok (.iload_n 1, 1) := by decide +kernel
theorem d4_12 : decode jdk_42_method_56_code 12 = .ok (.invokestatic 495, 3) := by decide +kernel
theorem d4_15 : decode jdk_42_method_56_code 15 = .ok (.ireturn, 1) := by decide +kernel
theorem own_pd2 : parseMethodDescriptor "()Z" = some ⟨[], some .boolean⟩ := by decide +kernel
theorem own_pd3 : parseMethodDescriptor "([BI)C" = some ⟨[(.array .byte), .int], some .char⟩ := by decide +kernel
theorem own_pn_rm4 : plainName "java/lang/String" = true := by first | (simp [plainName, overriddenIn]; done) | decide +kernel
theorem own_ef_rm4 (m : MethodId) (r0 : Addr) (p1 : Int32) : entryFrame m #[(.ref r0), (.int p1)] 2 = mkF m 0 #[.val (.ref r0), .val (.int p1)] [] := by first | (simp [entryFrame, mkF, argsToLocals, Value.category]; done) | rfl
def Q4 (Z : State) (r0 : Addr) (p1 : Int32) (bv : Addr) (n : Nat) (f : Nat → Value) (b : Int32) (cs : Int32) (w : Value) (h0 : Heap) (n0 : Nat) (v : Option Value) (h : Heap) (L : List Loc) : Prop := v = some (.int (chOf b)) ∧ Fr n0 L ∧ h = h0
set_option maxRecDepth 65536 in
set_option maxHeartbeats 40000000 in
theorem rm4 (l : Launch) (Z : State) (a0 : Array Value) (hw : ∀ d ∈ tables_1, d.before a0 Z = true) (ws : List Jvm.Cond) (r0 : Addr) (p1 : Int32) (bv : Addr) (n : Nat) (f : Nat → Value) (b : Int32) (cs : Int32) (w : Value) (h0 : Heap) (n0 : Nat) (Z0 : n0 ≤ h0.size) (E_s : Exa Z h0 r0 "java/lang/String") (F_c : Fld Z h0 r0 "java/lang/String" "coder" "B" (.int (0 : Int32))) (F_v : Fld Z h0 r0 "java/lang/String" "value" "[B" (.ref bv)) (A : Af Z h0 bv .byte n f) (hlo : ¬ p1 < 0) (hhi : p1 < n.toInt32) (hk : p1.toNatClampNeg < n) (hb : f p1.toNatClampNeg = .int b) (S_c : Sta Z h0 "java/lang/String" "COMPACT_STRINGS" "Z" (.int cs)) (hcs : ¬ cs = 0) (S_f : Sta Z h0 "jdk/internal/util/Preconditions" "SIOOBE_FORMATTER" "Ljava/util/function/BiFunction;" w) (hv_w : w.isRef = true) :
    MetFree l (⟨"java/lang/String", "charAt", "(I)C"⟩ : MethodName) (head1 (Jvm.Cond.code (⟨"java/lang/String", "charAt", "(I)C"⟩ : MethodName) jdk_42_method_56_code 2 (some .char) :: ws) ({ frames := 3, cells := 0, slots := 0, locals := 40 } : Room)) (fun a U => a = #[(.ref r0), (.int p1)] ∧ Z.Warmed39 U.vm ∧ U.heap = h0) (fun _ _ _ _ _ => True) (fun _ U o U' => ∃ v L, o = .returned v ∧ Q4 Z r0 p1 bv n f b cs w h0 n0 v U'.heap L ∧ FrameEnd U o U' L ({ frames := 3, cells := 0, slots := 0, locals := 40 } : Room).cells ({ frames := 3, cells := 0, slots := 0, locals := 40 } : Room).slots) := by
  refine MetFree.of_bodySF (plainFor_of_name own_pn_rm4) hisR ?_
  intro p e s m args below meth c s₁ Bd hml0 hP hK
  obtain ⟨rfl, hZ, hh⟩ := hP
  have hx := Bd.exec
  have hby := Bd.bytes
  have hml : c.maxLocals = 2 := hml0
  have hown : s.vm.findClass "java/lang/String" = some m.cls := findClass_of_methodNamed Bd.named
  have hnm := (name_of_methodNamed Bd.named Bd.method).1
  have hlk : meth.locks = false := BodyLoose.notSynchronized Bd
  have X0 : Stand p l e ({ frames := 3, cells := 0, slots := 0, locals := 40 } : Room) s m #[(.ref r0), (.int p1)] below meth c s₁ [] 0 0 := Stand.of_body Bd
  have e0 : s₁.heap = h0 := by rw [← hh, Bd.state]; rfl
  have N0 := Fr.nil n0
  refine own_in (own_ef_rm4 m r0 p1) ?_
  show Gm p e below s₁ m 0 #[rv r0, iv p1] [] _
  refine own_go (fun t₀ k₀ => XS.aloadN X0.here hx rfl (Jvm.hb hby d4_0) rfl rfl k₀) ?_
  show Gm p e below s₁ m 1 #[rv r0, iv p1] [(.ref r0)] _
  obtain ⟨cq1, kq1, q1a, q1b, q1c⟩ := isOf hZ e0 E_s
  obtain ⟨_, _, ⟨T1, L1, k1, n1⟩, -, X1, ⟨Lc1, hQ1, l1, y1, z1⟩, st1⟩ := X0.virtualBack hx (y := (⟨"java/lang/String", "isLatin1", "()Z"⟩ : MethodName)) (z := (⟨"java/lang/String", "isLatin1", "()Z"⟩ : MethodName)) hown (mvT hZ (hw _ (List.mem_of_getElem? (i := 23) rfl))) (mvT hZ (hw _ (List.mem_of_getElem? (i := 24) rfl))) (notFace_of_selects (args := #[]) (mvT hZ (hw _ (List.mem_of_getElem? (i := 26) rfl)))) (mvT hZ (hw _ (List.mem_of_getElem? (i := 26) rfl))) (mvT hZ (hw _ (List.mem_of_getElem? (i := 25) rfl))) (by decide) (backOf (W := 0) (rm5 l Z a0 hw [] r0 cs h0 n0 Z0 S_c hcs F_c) hZ (hw _ (List.mem_of_getElem? (i := 27) rfl)) (hw _ (List.mem_of_getElem? (i := 21) rfl)) (by decide) (by decide)) q1a q1c (g := (mkF m 1 #[rv r0, iv p1] [(.ref r0)])) rfl (by rw [hml]; rfl) (Steps.refl _) (argsL := []) (rest := []) (lenOf own_pd2 rfl) rfl (by show 2 * 0 + _ ≤ _; exact Nat.le_of_eq rfl) (Jvm.hb hby d4_1) (fun _ _ => ⟨rfl, e0, (by decide : 0 + 0 ≤ _), (by decide : 0 + 0 ≤ _)⟩)
  dsimp only [Pt.U, Pt.locs, Pt.cells, Pt.slots] at X1 l1 y1 z1 st1 hQ1
  subst l1 y1 z1
  obtain ⟨rfl, Nq1, eq1⟩ := hQ1
  have N1 := Fr.app N0 Nq1
  have e1 : T1.heap = h0 := eq1
  refine own_go (fun t k => st1.trans k) ?_
  show Gm p e below T1 m 4 #[rv r0, iv p1] [(.int (1 : Int32))] _
  refine own_go (fun t₀ k₀ => XS.ifNo X1.here hx rfl (Jvm.hb hby d4_4) rfl (XT.i0_eq_f (by decide)) k₀) ?_
  show Gm p e below T1 m 7 #[rv r0, iv p1] [] _
  refine own_go (fun t₀ k₀ => XS.aloadN X1.here hx rfl (Jvm.hb hby d4_7) rfl rfl k₀) ?_
  show Gm p e below T1 m 8 #[rv r0, iv p1] [(.ref r0)] _
  obtain ⟨T2, X2, e2, st2⟩ := getF X1 hx hZ hown (host := "") (Or.inl (hw _ (List.mem_of_getElem? (i := 31) rfl))) Via.refl e1 F_v (g := (mkF m 8 #[rv r0, iv p1] [(.ref r0)])) rfl rfl (Jvm.hb hby d4_8)
  refine own_go st2 ?_
  show Gm p e below T2 m 11 #[rv r0, iv p1] [(.ref bv)] _
  refine own_go (fun t₀ k₀ => XS.iloadN X2.here hx rfl (Jvm.hb hby d4_11) rfl k₀) ?_
  show Gm p e below T2 m 12 #[rv r0, iv p1] [(.int p1), (.ref bv)] _
  obtain ⟨_, _, ⟨T3, L3, k3, n3⟩, -, X3, ⟨Lc3, hQ3, l3, y3, z3⟩, st3⟩ := Jvm.LawKit.callS X2 hx (y := (⟨"java/lang/StringLatin1", "charAt", "([BI)C"⟩ : MethodName)) hown (mvT hZ (hw _ (List.mem_of_getElem? (i := 33) rfl))) (mvT hZ (hw _ (List.mem_of_getElem? (i := 34) rfl))) (mvT hZ (hw _ (List.mem_of_getElem? (i := 35) rfl))) (mvT hZ (hw _ (List.mem_of_getElem? (i := 36) rfl))) (by decide) (backOf (W := 0) (rm6 l Z a0 hw [] bv p1 n f b w h0 n0 Z0 A hlo hhi hk hb S_f hv_w) hZ (hw _ (List.mem_of_getElem? (i := 36) rfl)) (hw _ (List.mem_of_getElem? (i := 35) rfl)) (by decide) (by decide)) (g := (mkF m 12 #[rv r0, iv p1] [(.int p1), (.ref bv)])) rfl (by rw [hml]; rfl) (argsL := [(.ref bv), (.int p1)]) (rest := []) (lenOf own_pd3 rfl) rfl (by show 2 * 0 + _ ≤ _; exact Nat.le_of_eq rfl) (Jvm.hb hby d4_12) (fun _ _ => ⟨rfl, e2, (by decide : 0 + 0 ≤ _), (by decide : 0 + 0 ≤ _)⟩)
  dsimp only [Pt.U, Pt.locs, Pt.cells, Pt.slots] at X3 l3 y3 z3 st3 hQ3
  subst l3 y3 z3
  obtain ⟨rfl, Nq3, eq3⟩ := hQ3
  have N3 := Fr.app N1 Nq3
  have e3 : T3.heap = h0 := eq3
  refine own_go st3 ?_
  show Gm p e below T3 m 15 #[rv r0, iv p1] [(.int (chOf b))] _
  exact own_retI X3 hx hlk (t := .char) Bd.returns (XT.narrow_c _) (by simp) (Jvm.hb hby d4_15) e3 ⟨rfl, N3, rfl⟩ (by decide) (by decide)

def TC (Z : State) (h : Heap) (t : Addr) (b : Int32) : Prop := Exa Z h t "com/example/outlay/outlay/nacha/TransactionCode" ∧ ∃ (st bv : Addr) (f : Nat → Value), Fld Z h t "com/example/outlay/outlay/nacha/TransactionCode" "code" "Ljava/lang/String;" (.ref st) ∧ Exa Z h st "java/lang/String" ∧ Fld Z h st "java/lang/String" "coder" "B" (.int (0 : Int32)) ∧ Fld Z h st "java/lang/String" "value" "[B" (.ref bv) ∧ Af Z h bv .byte 2 f ∧ f 1 = .int b
theorem d1_0 : decode method_2_code 0 = .ok (.iload_n 0, 1) := by decide +kernel
theorem d1_1 : decode method_2_code 1 = .ok (.ifCond .ne 7, 3) := by decide +kernel
theorem d1_4 : decode method_2_code 4 = .ok (.getstatic 7, 3) := by decide +kernel
theorem d1_7 : decode method_2_code 7 = .ok (.areturn, 1) := by decide +kernel
theorem d1_8 : decode method_2_code 8 = .ok (.iload_n 0, 1) := by decide +kernel
theorem d1_9 : decode method_2_code 9 = .ok (.iconst 1, 1) := by decide +kernel
theorem d1_10 : decode method_2_code 10 = .ok (.if_icmp .ne 7, 3) := by decide +kernel
theorem d1_13 : decode method_2_code 13 = .ok (.getstatic 13, 3) := by decide +kernel
theorem d1_16 : decode method_2_code 16 = .ok (.areturn, 1) := by decide +kernel
theorem d1_17 : decode method_2_code 17 = .ok (.iload_n 0, 1) := by decide +kernel
theorem d1_18 : decode method_2_code 18 = .ok (.iconst 2, 1) := by decide +kernel
theorem d1_19 : decode method_2_code 19 = .ok (.if_icmp .ne 7, 3) := by decide +kernel
theorem d1_22 : decode method_2_code 22 = .ok (.getstatic 16, 3) := by decide +kernel
theorem d1_25 : decode method_2_code 25 = .ok (.areturn, 1) := by decide +kernel
theorem d1_26 : decode method_2_code 26 = .ok (.iload_n 0, 1) := by decide +kernel
theorem d1_27 : decode method_2_code 27 = .ok (.iconst 3, 1) := by decide +kernel
theorem d1_28 : decode method_2_code 28 = .ok (.if_icmp .ne 7, 3) := by decide +kernel
theorem d1_31 : decode method_2_code 31 = .ok (.getstatic 19, 3) := by decide +kernel
theorem d1_34 : decode method_2_code 34 = .ok (.areturn, 1) := by decide +kernel
theorem d1_35 : decode method_2_code 35 = .ok (.iload_n 0, 1) := by decide +kernel
theorem d1_36 : decode method_2_code 36 = .ok (.iconst 4, 1) := by decide +kernel
theorem d1_37 : decode method_2_code 37 = .ok (.if_icmp .ne 7, 3) := by decide +kernel
theorem d1_40 : decode method_2_code 40 = .ok (.getstatic 22, 3) := by decide +kernel
theorem d1_43 : decode method_2_code 43 = .ok (.areturn, 1) := by decide +kernel
theorem d1_44 : decode method_2_code 44 = .ok (.iload_n 0, 1) := by decide +kernel
theorem d1_45 : decode method_2_code 45 = .ok (.iconst 5, 1) := by decide +kernel
theorem d1_46 : decode method_2_code 46 = .ok (.if_icmp .ne 7, 3) := by decide +kernel
theorem d1_49 : decode method_2_code 49 = .ok (.getstatic 25, 3) := by decide +kernel
theorem d1_52 : decode method_2_code 52 = .ok (.areturn, 1) := by decide +kernel
theorem d1_53 : decode method_2_code 53 = .ok (.iload_n 0, 1) := by decide +kernel
theorem d1_54 : decode method_2_code 54 = .ok (.bipush 6, 2) := by decide +kernel
theorem d1_56 : decode method_2_code 56 = .ok (.if_icmp .ne 7, 3) := by decide +kernel
theorem d1_59 : decode method_2_code 59 = .ok (.getstatic 28, 3) := by decide +kernel
theorem d1_62 : decode method_2_code 62 = .ok (.areturn, 1) := by decide +kernel
theorem d1_63 : decode method_2_code 63 = .ok (.getstatic 31, 3) := by decide +kernel
theorem d1_66 : decode method_2_code 66 = .ok (.areturn, 1) := by decide +kernel
theorem own_pn_rm1 : plainName "com/example/outlay/outlay/nacha/TransactionCodeIsReturnPinLaw" = true := by first | (simp [plainName, overriddenIn]; done) | decide +kernel
theorem own_ef_rm1 (m : MethodId) (p0 : Int32) : entryFrame m #[(.int p0)] 1 = mkF m 0 #[.val (.int p0)] [] := by first | (simp [entryFrame, mkF, argsToLocals, Value.category]; done) | rfl
def fP (p0 : Int32) (w0 : Addr) (w1 : Addr) (w2 : Addr) (w3 : Addr) (w4 : Addr) (w5 : Addr) (w6 : Addr) (w7 : Addr) : Addr := if p0 = (0 : Int32) then w0 else (if p0 = (1 : Int32) then w1 else (if p0 = (2 : Int32) then w2 else (if p0 = (3 : Int32) then w3 else (if p0 = (4 : Int32) then w4 else (if p0 = (5 : Int32) then w5 else (if p0 = (6 : Int32) then w6 else (w7)))))))
def Q1 (Z : State) (p0 : Int32) (w0 : Addr) (w1 : Addr) (w2 : Addr) (w3 : Addr) (w4 : Addr) (w5 : Addr) (w6 : Addr) (w7 : Addr) (h0 : Heap) (n0 : Nat) (v : Option Value) (h : Heap) (L : List Loc) : Prop := v = some (.ref (fP p0 w0 w1 w2 w3 w4 w5 w6 w7)) ∧ Fr n0 L ∧ h = h0
set_option maxRecDepth 65536 in
set_option maxHeartbeats 40000000 in
theorem rm1 (l : Launch) (Z : State) (a0 : Array Value) (hw : ∀ d ∈ tables_1, d.before a0 Z = true) (ws : List Jvm.Cond) (p0 : Int32) (w0 : Addr) (w1 : Addr) (w2 : Addr) (w3 : Addr) (w4 : Addr) (w5 : Addr) (w6 : Addr) (w7 : Addr) (h0 : Heap) (n0 : Nat) (Z0 : n0 ≤ h0.size) (S_w0 : Sta Z h0 "com/example/outlay/outlay/nacha/TransactionCode" "CHECKING_CREDIT_RETURN" "Lcom/example/outlay/outlay/nacha/TransactionCode;" (.ref w0)) (S_w1 : Sta Z h0 "com/example/outlay/outlay/nacha/TransactionCode" "CHECKING_CREDIT" "Lcom/example/outlay/outlay/nacha/TransactionCode;" (.ref w1)) (S_w2 : Sta Z h0 "com/example/outlay/outlay/nacha/TransactionCode" "CHECKING_DEBIT_RETURN" "Lcom/example/outlay/outlay/nacha/TransactionCode;" (.ref w2)) (S_w3 : Sta Z h0 "com/example/outlay/outlay/nacha/TransactionCode" "CHECKING_DEBIT" "Lcom/example/outlay/outlay/nacha/TransactionCode;" (.ref w3)) (S_w4 : Sta Z h0 "com/example/outlay/outlay/nacha/TransactionCode" "SAVINGS_CREDIT_RETURN" "Lcom/example/outlay/outlay/nacha/TransactionCode;" (.ref w4)) (S_w5 : Sta Z h0 "com/example/outlay/outlay/nacha/TransactionCode" "SAVINGS_CREDIT" "Lcom/example/outlay/outlay/nacha/TransactionCode;" (.ref w5)) (S_w6 : Sta Z h0 "com/example/outlay/outlay/nacha/TransactionCode" "SAVINGS_DEBIT_RETURN" "Lcom/example/outlay/outlay/nacha/TransactionCode;" (.ref w6)) (S_w7 : Sta Z h0 "com/example/outlay/outlay/nacha/TransactionCode" "SAVINGS_DEBIT" "Lcom/example/outlay/outlay/nacha/TransactionCode;" (.ref w7)) :
    MetFree l (⟨"com/example/outlay/outlay/nacha/TransactionCodeIsReturnPinLaw", "pick", "(I)Lcom/example/outlay/outlay/nacha/TransactionCode;"⟩ : MethodName) (head1 (Jvm.Cond.code (⟨"com/example/outlay/outlay/nacha/TransactionCodeIsReturnPinLaw", "pick", "(I)Lcom/example/outlay/outlay/nacha/TransactionCode;"⟩ : MethodName) method_2_code 1 (some (.object "com/example/outlay/outlay/nacha/TransactionCode")) :: ws) ({ frames := 0, cells := 0, slots := 0, locals := 0 } : Room)) (fun a U => a = #[(.int p0)] ∧ Z.Warmed39 U.vm ∧ U.heap = h0) (fun _ _ _ _ _ => True) (fun _ U o U' => ∃ v L, o = .returned v ∧ Q1 Z p0 w0 w1 w2 w3 w4 w5 w6 w7 h0 n0 v U'.heap L ∧ FrameEnd U o U' L ({ frames := 0, cells := 0, slots := 0, locals := 0 } : Room).cells ({ frames := 0, cells := 0, slots := 0, locals := 0 } : Room).slots) := by
  refine MetFree.of_bodySF (plainFor_of_name own_pn_rm1) hisR ?_
  intro p e s m args below meth c s₁ Bd hml0 hP hK
  obtain ⟨rfl, hZ, hh⟩ := hP
  have hx := Bd.exec
  have hby := Bd.bytes
  have hml : c.maxLocals = 1 := hml0
  have hown : s.vm.findClass "com/example/outlay/outlay/nacha/TransactionCodeIsReturnPinLaw" = some m.cls := findClass_of_methodNamed Bd.named
  have hnm := (name_of_methodNamed Bd.named Bd.method).1
  have hlk : meth.locks = false := BodyLoose.notSynchronized Bd
  have X0 : Stand p l e ({ frames := 0, cells := 0, slots := 0, locals := 0 } : Room) s m #[(.int p0)] below meth c s₁ [] 0 0 := Stand.of_body Bd
  have e0 : s₁.heap = h0 := by rw [← hh, Bd.state]; rfl
  have N0 := Fr.nil n0
  refine own_in (own_ef_rm1 m p0) ?_
  show Gm p e below s₁ m 0 #[iv p0] [] _
  refine own_go (fun t₀ k₀ => XS.iloadN X0.here hx rfl (Jvm.hb hby d1_0) rfl k₀) ?_
  show Gm p e below s₁ m 1 #[iv p0] [(.int p0)] _
  by_cases c1 : p0 = (0 : Int32)
  · have hfork := trivial
    refine own_go (fun t₀ k₀ => XS.ifNo X0.here hx rfl (Jvm.hb hby d1_1) rfl (XT.i0_ne_f c1) k₀) ?_
    show Gm p e below s₁ m 4 #[iv p0] [] _
    obtain ⟨T2, X2, e2, st2⟩ := getS2 X0 hx hZ hown (host := "") (Or.inl (hw _ (List.mem_of_getElem? (i := 4) rfl))) Via.refl e0 S_w0 (g := (mkF m 4 #[iv p0] [])) rfl (Jvm.hb hby d1_4)
    refine own_go st2 ?_
    show Gm p e below T2 m 7 #[iv p0] [(.ref w0)] _
    exact own_retA X2 hx hlk rfl Bd.returns rfl (Jvm.hb hby d1_7) e2 ⟨(by unfold fP; rw [if_pos c1]), N0, rfl⟩ (by decide) (by decide)
  · have hfork := trivial
    refine own_go (fun t₀ k₀ => XS.ifYes X0.here hx rfl (pc0 := 1) (pc' := 8) rfl (Jvm.hb hby d1_1) rfl (XT.i0_ne_t c1) (by decide) (by decide) k₀) ?_
    show Gm p e below s₁ m 8 #[iv p0] [] _
    refine own_go (fun t₀ k₀ => XS.iloadN X0.here hx rfl (Jvm.hb hby d1_8) rfl k₀) ?_
    show Gm p e below s₁ m 9 #[iv p0] [(.int p0)] _
    refine own_go (fun t₀ k₀ => XS.iconst X0.here hx rfl (Jvm.hb hby d1_9) k₀) ?_
    show Gm p e below s₁ m 10 #[iv p0] [(.int (1 : Int32)), (.int p0)] _
    by_cases c3 : p0 = (1 : Int32)
    · have hfork := trivial
      refine own_go (fun t₀ k₀ => XS.icmpNo X0.here hx rfl (Jvm.hb hby d1_10) rfl (XT.ii_ne_f c3) k₀) ?_
      show Gm p e below s₁ m 13 #[iv p0] [] _
      obtain ⟨T4, X4, e4, st4⟩ := getS2 X0 hx hZ hown (host := "") (Or.inl (hw _ (List.mem_of_getElem? (i := 53) rfl))) Via.refl e0 S_w1 (g := (mkF m 13 #[iv p0] [])) rfl (Jvm.hb hby d1_13)
      refine own_go st4 ?_
      show Gm p e below T4 m 16 #[iv p0] [(.ref w1)] _
      exact own_retA X4 hx hlk rfl Bd.returns rfl (Jvm.hb hby d1_16) e4 ⟨(by unfold fP; rw [if_neg c1, if_pos c3]), N0, rfl⟩ (by decide) (by decide)
    · have hfork := trivial
      refine own_go (fun t₀ k₀ => XS.icmpYes X0.here hx rfl (pc0 := 10) (pc' := 17) rfl (Jvm.hb hby d1_10) rfl (XT.ii_ne_t c3) (by decide) (by decide) k₀) ?_
      show Gm p e below s₁ m 17 #[iv p0] [] _
      refine own_go (fun t₀ k₀ => XS.iloadN X0.here hx rfl (Jvm.hb hby d1_17) rfl k₀) ?_
      show Gm p e below s₁ m 18 #[iv p0] [(.int p0)] _
      refine own_go (fun t₀ k₀ => XS.iconst X0.here hx rfl (Jvm.hb hby d1_18) k₀) ?_
      show Gm p e below s₁ m 19 #[iv p0] [(.int (2 : Int32)), (.int p0)] _
      by_cases c5 : p0 = (2 : Int32)
      · have hfork := trivial
        refine own_go (fun t₀ k₀ => XS.icmpNo X0.here hx rfl (Jvm.hb hby d1_19) rfl (XT.ii_ne_f c5) k₀) ?_
        show Gm p e below s₁ m 22 #[iv p0] [] _
        obtain ⟨T6, X6, e6, st6⟩ := getS2 X0 hx hZ hown (host := "") (Or.inl (hw _ (List.mem_of_getElem? (i := 51) rfl))) Via.refl e0 S_w2 (g := (mkF m 22 #[iv p0] [])) rfl (Jvm.hb hby d1_22)
        refine own_go st6 ?_
        show Gm p e below T6 m 25 #[iv p0] [(.ref w2)] _
        exact own_retA X6 hx hlk rfl Bd.returns rfl (Jvm.hb hby d1_25) e6 ⟨(by unfold fP; rw [if_neg c1, if_neg c3, if_pos c5]), N0, rfl⟩ (by decide) (by decide)
      · have hfork := trivial
        refine own_go (fun t₀ k₀ => XS.icmpYes X0.here hx rfl (pc0 := 19) (pc' := 26) rfl (Jvm.hb hby d1_19) rfl (XT.ii_ne_t c5) (by decide) (by decide) k₀) ?_
        show Gm p e below s₁ m 26 #[iv p0] [] _
        refine own_go (fun t₀ k₀ => XS.iloadN X0.here hx rfl (Jvm.hb hby d1_26) rfl k₀) ?_
        show Gm p e below s₁ m 27 #[iv p0] [(.int p0)] _
        refine own_go (fun t₀ k₀ => XS.iconst X0.here hx rfl (Jvm.hb hby d1_27) k₀) ?_
        show Gm p e below s₁ m 28 #[iv p0] [(.int (3 : Int32)), (.int p0)] _
        by_cases c7 : p0 = (3 : Int32)
        · have hfork := trivial
          refine own_go (fun t₀ k₀ => XS.icmpNo X0.here hx rfl (Jvm.hb hby d1_28) rfl (XT.ii_ne_f c7) k₀) ?_
          show Gm p e below s₁ m 31 #[iv p0] [] _
          obtain ⟨T8, X8, e8, st8⟩ := getS2 X0 hx hZ hown (host := "") (Or.inl (hw _ (List.mem_of_getElem? (i := 45) rfl))) Via.refl e0 S_w3 (g := (mkF m 31 #[iv p0] [])) rfl (Jvm.hb hby d1_31)
          refine own_go st8 ?_
          show Gm p e below T8 m 34 #[iv p0] [(.ref w3)] _
          exact own_retA X8 hx hlk rfl Bd.returns rfl (Jvm.hb hby d1_34) e8 ⟨(by unfold fP; rw [if_neg c1, if_neg c3, if_neg c5, if_pos c7]), N0, rfl⟩ (by decide) (by decide)
        · have hfork := trivial
          refine own_go (fun t₀ k₀ => XS.icmpYes X0.here hx rfl (pc0 := 28) (pc' := 35) rfl (Jvm.hb hby d1_28) rfl (XT.ii_ne_t c7) (by decide) (by decide) k₀) ?_
          show Gm p e below s₁ m 35 #[iv p0] [] _
          refine own_go (fun t₀ k₀ => XS.iloadN X0.here hx rfl (Jvm.hb hby d1_35) rfl k₀) ?_
          show Gm p e below s₁ m 36 #[iv p0] [(.int p0)] _
          refine own_go (fun t₀ k₀ => XS.iconst X0.here hx rfl (Jvm.hb hby d1_36) k₀) ?_
          show Gm p e below s₁ m 37 #[iv p0] [(.int (4 : Int32)), (.int p0)] _
          by_cases c9 : p0 = (4 : Int32)
          · have hfork := trivial
            refine own_go (fun t₀ k₀ => XS.icmpNo X0.here hx rfl (Jvm.hb hby d1_37) rfl (XT.ii_ne_f c9) k₀) ?_
            show Gm p e below s₁ m 40 #[iv p0] [] _
            obtain ⟨T10, X10, e10, st10⟩ := getS2 X0 hx hZ hown (host := "") (Or.inl (hw _ (List.mem_of_getElem? (i := 55) rfl))) Via.refl e0 S_w4 (g := (mkF m 40 #[iv p0] [])) rfl (Jvm.hb hby d1_40)
            refine own_go st10 ?_
            show Gm p e below T10 m 43 #[iv p0] [(.ref w4)] _
            exact own_retA X10 hx hlk rfl Bd.returns rfl (Jvm.hb hby d1_43) e10 ⟨(by unfold fP; rw [if_neg c1, if_neg c3, if_neg c5, if_neg c7, if_pos c9]), N0, rfl⟩ (by decide) (by decide)
          · have hfork := trivial
            refine own_go (fun t₀ k₀ => XS.icmpYes X0.here hx rfl (pc0 := 37) (pc' := 44) rfl (Jvm.hb hby d1_37) rfl (XT.ii_ne_t c9) (by decide) (by decide) k₀) ?_
            show Gm p e below s₁ m 44 #[iv p0] [] _
            refine own_go (fun t₀ k₀ => XS.iloadN X0.here hx rfl (Jvm.hb hby d1_44) rfl k₀) ?_
            show Gm p e below s₁ m 45 #[iv p0] [(.int p0)] _
            refine own_go (fun t₀ k₀ => XS.iconst X0.here hx rfl (Jvm.hb hby d1_45) k₀) ?_
            show Gm p e below s₁ m 46 #[iv p0] [(.int (5 : Int32)), (.int p0)] _
            by_cases c11 : p0 = (5 : Int32)
            · have hfork := trivial
              refine own_go (fun t₀ k₀ => XS.icmpNo X0.here hx rfl (Jvm.hb hby d1_46) rfl (XT.ii_ne_f c11) k₀) ?_
              show Gm p e below s₁ m 49 #[iv p0] [] _
              obtain ⟨T12, X12, e12, st12⟩ := getS2 X0 hx hZ hown (host := "") (Or.inl (hw _ (List.mem_of_getElem? (i := 57) rfl))) Via.refl e0 S_w5 (g := (mkF m 49 #[iv p0] [])) rfl (Jvm.hb hby d1_49)
              refine own_go st12 ?_
              show Gm p e below T12 m 52 #[iv p0] [(.ref w5)] _
              exact own_retA X12 hx hlk rfl Bd.returns rfl (Jvm.hb hby d1_52) e12 ⟨(by unfold fP; rw [if_neg c1, if_neg c3, if_neg c5, if_neg c7, if_neg c9, if_pos c11]), N0, rfl⟩ (by decide) (by decide)
            · have hfork := trivial
              refine own_go (fun t₀ k₀ => XS.icmpYes X0.here hx rfl (pc0 := 46) (pc' := 53) rfl (Jvm.hb hby d1_46) rfl (XT.ii_ne_t c11) (by decide) (by decide) k₀) ?_
              show Gm p e below s₁ m 53 #[iv p0] [] _
              refine own_go (fun t₀ k₀ => XS.iloadN X0.here hx rfl (Jvm.hb hby d1_53) rfl k₀) ?_
              show Gm p e below s₁ m 54 #[iv p0] [(.int p0)] _
              refine own_go (fun t₀ k₀ => XS.bipush X0.here hx rfl (Jvm.hb hby d1_54) k₀) ?_
              show Gm p e below s₁ m 56 #[iv p0] [(.int (6 : Int32)), (.int p0)] _
              by_cases c13 : p0 = (6 : Int32)
              · have hfork := trivial
                refine own_go (fun t₀ k₀ => XS.icmpNo X0.here hx rfl (Jvm.hb hby d1_56) rfl (XT.ii_ne_f c13) k₀) ?_
                show Gm p e below s₁ m 59 #[iv p0] [] _
                obtain ⟨T14, X14, e14, st14⟩ := getS2 X0 hx hZ hown (host := "") (Or.inl (hw _ (List.mem_of_getElem? (i := 47) rfl))) Via.refl e0 S_w6 (g := (mkF m 59 #[iv p0] [])) rfl (Jvm.hb hby d1_59)
                refine own_go st14 ?_
                show Gm p e below T14 m 62 #[iv p0] [(.ref w6)] _
                exact own_retA X14 hx hlk rfl Bd.returns rfl (Jvm.hb hby d1_62) e14 ⟨(by unfold fP; rw [if_neg c1, if_neg c3, if_neg c5, if_neg c7, if_neg c9, if_neg c11, if_pos c13]), N0, rfl⟩ (by decide) (by decide)
              · have hfork := trivial
                refine own_go (fun t₀ k₀ => XS.icmpYes X0.here hx rfl (pc0 := 56) (pc' := 63) rfl (Jvm.hb hby d1_56) rfl (XT.ii_ne_t c13) (by decide) (by decide) k₀) ?_
                show Gm p e below s₁ m 63 #[iv p0] [] _
                obtain ⟨T15, X15, e15, st15⟩ := getS2 X0 hx hZ hown (host := "") (Or.inl (hw _ (List.mem_of_getElem? (i := 49) rfl))) Via.refl e0 S_w7 (g := (mkF m 63 #[iv p0] [])) rfl (Jvm.hb hby d1_63)
                refine own_go st15 ?_
                show Gm p e below T15 m 66 #[iv p0] [(.ref w7)] _
                exact own_retA X15 hx hlk rfl Bd.returns rfl (Jvm.hb hby d1_66) e15 ⟨(by unfold fP; rw [if_neg c1, if_neg c3, if_neg c5, if_neg c7, if_neg c9, if_neg c11, if_neg c13]), N0, rfl⟩ (by decide) (by decide)
theorem d2_0 : decode method_3_code 0 = .ok (.iload_n 0, 1) := by decide +kernel
theorem d2_1 : decode method_3_code 1 = .ok (.ifCond .ne 5, 3) := by decide +kernel
theorem d2_4 : decode method_3_code 4 = .ok (.iconst 1, 1) := by decide +kernel
theorem d2_5 : decode method_3_code 5 = .ok (.ireturn, 1) := by decide +kernel
theorem d2_6 : decode method_3_code 6 = .ok (.iload_n 0, 1) := by decide +kernel
theorem d2_7 : decode method_3_code 7 = .ok (.iconst 1, 1) := by decide +kernel
theorem d2_8 : decode method_3_code 8 = .ok (.if_icmp .ne 5, 3) := by decide +kernel
theorem d2_11 : decode method_3_code 11 = .ok (.iconst 0, 1) := by decide +kernel
theorem d2_12 : decode method_3_code 12 = .ok (.ireturn, 1) := by decide +kernel
theorem d2_13 : decode method_3_code 13 = .ok (.iload_n 0, 1) := by decide +kernel
theorem d2_14 : decode method_3_code 14 = .ok (.iconst 2, 1) := by decide +kernel
theorem d2_15 : decode method_3_code 15 = .ok (.if_icmp .ne 5, 3) := by decide +kernel
theorem d2_18 : decode method_3_code 18 = .ok (.iconst 1, 1) := by decide +kernel
theorem d2_19 : decode method_3_code 19 = .ok (.ireturn, 1) := by decide +kernel
theorem d2_20 : decode method_3_code 20 = .ok (.iload_n 0, 1) := by decide +kernel
theorem d2_21 : decode method_3_code 21 = .ok (.iconst 3, 1) := by decide +kernel
theorem d2_22 : decode method_3_code 22 = .ok (.if_icmp .ne 5, 3) := by decide +kernel
theorem d2_25 : decode method_3_code 25 = .ok (.iconst 0, 1) := by decide +kernel
theorem d2_26 : decode method_3_code 26 = .ok (.ireturn, 1) := by decide +kernel
theorem d2_27 : decode method_3_code 27 = .ok (.iload_n 0, 1) := by decide +kernel
theorem d2_28 : decode method_3_code 28 = .ok (.iconst 4, 1) := by decide +kernel
theorem d2_29 : decode method_3_code 29 = .ok (.if_icmp .ne 5, 3) := by decide +kernel
theorem d2_32 : decode method_3_code 32 = .ok (.iconst 1, 1) := by decide +kernel
theorem d2_33 : decode method_3_code 33 = .ok (.ireturn, 1) := by decide +kernel
theorem d2_34 : decode method_3_code 34 = .ok (.iload_n 0, 1) := by decide +kernel
theorem d2_35 : decode method_3_code 35 = .ok (.iconst 5, 1) := by decide +kernel
theorem d2_36 : decode method_3_code 36 = .ok (.if_icmp .ne 5, 3) := by decide +kernel
theorem d2_39 : decode method_3_code 39 = .ok (.iconst 0, 1) := by decide +kernel
theorem d2_40 : decode method_3_code 40 = .ok (.ireturn, 1) := by decide +kernel
theorem d2_41 : decode method_3_code 41 = .ok (.iload_n 0, 1) := by decide +kernel
theorem d2_42 : decode method_3_code 42 = .ok (.bipush 6, 2) := by decide +kernel
theorem d2_44 : decode method_3_code 44 = .ok (.if_icmp .ne 5, 3) := by decide +kernel
theorem d2_47 : decode method_3_code 47 = .ok (.iconst 1, 1) := by decide +kernel
theorem d2_48 : decode method_3_code 48 = .ok (.ireturn, 1) := by decide +kernel
theorem d2_49 : decode method_3_code 49 = .ok (.iconst 0, 1) := by decide +kernel
theorem d2_50 : decode method_3_code 50 = .ok (.ireturn, 1) := by decide +kernel
theorem own_pn_rm2 : plainName "com/example/outlay/outlay/nacha/TransactionCodeIsReturnPinLaw" = true := by first | (simp [plainName, overriddenIn]; done) | decide +kernel
theorem own_ef_rm2 (m : MethodId) (p0 : Int32) : entryFrame m #[(.int p0)] 1 = mkF m 0 #[.val (.int p0)] [] := by first | (simp [entryFrame, mkF, argsToLocals, Value.category]; done) | rfl
def fE (p0 : Int32) : Int32 := if p0 = (0 : Int32) then (1 : Int32) else (if p0 = (1 : Int32) then (0 : Int32) else (if p0 = (2 : Int32) then (1 : Int32) else (if p0 = (3 : Int32) then (0 : Int32) else (if p0 = (4 : Int32) then (1 : Int32) else (if p0 = (5 : Int32) then (0 : Int32) else (if p0 = (6 : Int32) then (1 : Int32) else ((0 : Int32))))))))
def Q2 (Z : State) (p0 : Int32) (h0 : Heap) (n0 : Nat) (v : Option Value) (h : Heap) (L : List Loc) : Prop := v = some (.int (fE p0)) ∧ Fr n0 L ∧ h = h0
set_option maxRecDepth 65536 in
set_option maxHeartbeats 40000000 in
theorem rm2 (l : Launch) (Z : State) (a0 : Array Value) (hw : ∀ d ∈ tables_1, d.before a0 Z = true) (ws : List Jvm.Cond) (p0 : Int32) (h0 : Heap) (n0 : Nat) (Z0 : n0 ≤ h0.size) :
    MetFree l (⟨"com/example/outlay/outlay/nacha/TransactionCodeIsReturnPinLaw", "expectedReturn", "(I)Z"⟩ : MethodName) (head1 (Jvm.Cond.code (⟨"com/example/outlay/outlay/nacha/TransactionCodeIsReturnPinLaw", "expectedReturn", "(I)Z"⟩ : MethodName) method_3_code 1 (some .boolean) :: ws) ({ frames := 0, cells := 0, slots := 0, locals := 0 } : Room)) (fun a U => a = #[(.int p0)] ∧ Z.Warmed39 U.vm ∧ U.heap = h0) (fun _ _ _ _ _ => True) (fun _ U o U' => ∃ v L, o = .returned v ∧ Q2 Z p0 h0 n0 v U'.heap L ∧ FrameEnd U o U' L ({ frames := 0, cells := 0, slots := 0, locals := 0 } : Room).cells ({ frames := 0, cells := 0, slots := 0, locals := 0 } : Room).slots) := by
  refine MetFree.of_bodySF (plainFor_of_name own_pn_rm2) hisR ?_
  intro p e s m args below meth c s₁ Bd hml0 hP hK
  obtain ⟨rfl, hZ, hh⟩ := hP
  have hx := Bd.exec
  have hby := Bd.bytes
  have hml : c.maxLocals = 1 := hml0
  have hown : s.vm.findClass "com/example/outlay/outlay/nacha/TransactionCodeIsReturnPinLaw" = some m.cls := findClass_of_methodNamed Bd.named
  have hnm := (name_of_methodNamed Bd.named Bd.method).1
  have hlk : meth.locks = false := BodyLoose.notSynchronized Bd
  have X0 : Stand p l e ({ frames := 0, cells := 0, slots := 0, locals := 0 } : Room) s m #[(.int p0)] below meth c s₁ [] 0 0 := Stand.of_body Bd
  have e0 : s₁.heap = h0 := by rw [← hh, Bd.state]; rfl
  have N0 := Fr.nil n0
  refine own_in (own_ef_rm2 m p0) ?_
  show Gm p e below s₁ m 0 #[iv p0] [] _
  refine own_go (fun t₀ k₀ => XS.iloadN X0.here hx rfl (Jvm.hb hby d2_0) rfl k₀) ?_
  show Gm p e below s₁ m 1 #[iv p0] [(.int p0)] _
  by_cases c1 : p0 = (0 : Int32)
  · have hfork := trivial
    refine own_go (fun t₀ k₀ => XS.ifNo X0.here hx rfl (Jvm.hb hby d2_1) rfl (XT.i0_ne_f c1) k₀) ?_
    show Gm p e below s₁ m 4 #[iv p0] [] _
    refine own_go (fun t₀ k₀ => XS.iconst X0.here hx rfl (Jvm.hb hby d2_4) k₀) ?_
    show Gm p e below s₁ m 5 #[iv p0] [(.int (1 : Int32))] _
    exact own_retI X0 hx hlk (t := .boolean) Bd.returns rfl (by simp) (Jvm.hb hby d2_5) e0 ⟨(by unfold fE; rw [if_pos c1]), N0, rfl⟩ (by decide) (by decide)
  · have hfork := trivial
    refine own_go (fun t₀ k₀ => XS.ifYes X0.here hx rfl (pc0 := 1) (pc' := 6) rfl (Jvm.hb hby d2_1) rfl (XT.i0_ne_t c1) (by decide) (by decide) k₀) ?_
    show Gm p e below s₁ m 6 #[iv p0] [] _
    refine own_go (fun t₀ k₀ => XS.iloadN X0.here hx rfl (Jvm.hb hby d2_6) rfl k₀) ?_
    show Gm p e below s₁ m 7 #[iv p0] [(.int p0)] _
    refine own_go (fun t₀ k₀ => XS.iconst X0.here hx rfl (Jvm.hb hby d2_7) k₀) ?_
    show Gm p e below s₁ m 8 #[iv p0] [(.int (1 : Int32)), (.int p0)] _
    by_cases c2 : p0 = (1 : Int32)
    · have hfork := trivial
      refine own_go (fun t₀ k₀ => XS.icmpNo X0.here hx rfl (Jvm.hb hby d2_8) rfl (XT.ii_ne_f c2) k₀) ?_
      show Gm p e below s₁ m 11 #[iv p0] [] _
      refine own_go (fun t₀ k₀ => XS.iconst X0.here hx rfl (Jvm.hb hby d2_11) k₀) ?_
      show Gm p e below s₁ m 12 #[iv p0] [(.int (0 : Int32))] _
      exact own_retI X0 hx hlk (t := .boolean) Bd.returns rfl (by simp) (Jvm.hb hby d2_12) e0 ⟨(by unfold fE; rw [if_neg c1, if_pos c2]), N0, rfl⟩ (by decide) (by decide)
    · have hfork := trivial
      refine own_go (fun t₀ k₀ => XS.icmpYes X0.here hx rfl (pc0 := 8) (pc' := 13) rfl (Jvm.hb hby d2_8) rfl (XT.ii_ne_t c2) (by decide) (by decide) k₀) ?_
      show Gm p e below s₁ m 13 #[iv p0] [] _
      refine own_go (fun t₀ k₀ => XS.iloadN X0.here hx rfl (Jvm.hb hby d2_13) rfl k₀) ?_
      show Gm p e below s₁ m 14 #[iv p0] [(.int p0)] _
      refine own_go (fun t₀ k₀ => XS.iconst X0.here hx rfl (Jvm.hb hby d2_14) k₀) ?_
      show Gm p e below s₁ m 15 #[iv p0] [(.int (2 : Int32)), (.int p0)] _
      by_cases c3 : p0 = (2 : Int32)
      · have hfork := trivial
        refine own_go (fun t₀ k₀ => XS.icmpNo X0.here hx rfl (Jvm.hb hby d2_15) rfl (XT.ii_ne_f c3) k₀) ?_
        show Gm p e below s₁ m 18 #[iv p0] [] _
        refine own_go (fun t₀ k₀ => XS.iconst X0.here hx rfl (Jvm.hb hby d2_18) k₀) ?_
        show Gm p e below s₁ m 19 #[iv p0] [(.int (1 : Int32))] _
        exact own_retI X0 hx hlk (t := .boolean) Bd.returns rfl (by simp) (Jvm.hb hby d2_19) e0 ⟨(by unfold fE; rw [if_neg c1, if_neg c2, if_pos c3]), N0, rfl⟩ (by decide) (by decide)
      · have hfork := trivial
        refine own_go (fun t₀ k₀ => XS.icmpYes X0.here hx rfl (pc0 := 15) (pc' := 20) rfl (Jvm.hb hby d2_15) rfl (XT.ii_ne_t c3) (by decide) (by decide) k₀) ?_
        show Gm p e below s₁ m 20 #[iv p0] [] _
        refine own_go (fun t₀ k₀ => XS.iloadN X0.here hx rfl (Jvm.hb hby d2_20) rfl k₀) ?_
        show Gm p e below s₁ m 21 #[iv p0] [(.int p0)] _
        refine own_go (fun t₀ k₀ => XS.iconst X0.here hx rfl (Jvm.hb hby d2_21) k₀) ?_
        show Gm p e below s₁ m 22 #[iv p0] [(.int (3 : Int32)), (.int p0)] _
        by_cases c4 : p0 = (3 : Int32)
        · have hfork := trivial
          refine own_go (fun t₀ k₀ => XS.icmpNo X0.here hx rfl (Jvm.hb hby d2_22) rfl (XT.ii_ne_f c4) k₀) ?_
          show Gm p e below s₁ m 25 #[iv p0] [] _
          refine own_go (fun t₀ k₀ => XS.iconst X0.here hx rfl (Jvm.hb hby d2_25) k₀) ?_
          show Gm p e below s₁ m 26 #[iv p0] [(.int (0 : Int32))] _
          exact own_retI X0 hx hlk (t := .boolean) Bd.returns rfl (by simp) (Jvm.hb hby d2_26) e0 ⟨(by unfold fE; rw [if_neg c1, if_neg c2, if_neg c3, if_pos c4]), N0, rfl⟩ (by decide) (by decide)
        · have hfork := trivial
          refine own_go (fun t₀ k₀ => XS.icmpYes X0.here hx rfl (pc0 := 22) (pc' := 27) rfl (Jvm.hb hby d2_22) rfl (XT.ii_ne_t c4) (by decide) (by decide) k₀) ?_
          show Gm p e below s₁ m 27 #[iv p0] [] _
          refine own_go (fun t₀ k₀ => XS.iloadN X0.here hx rfl (Jvm.hb hby d2_27) rfl k₀) ?_
          show Gm p e below s₁ m 28 #[iv p0] [(.int p0)] _
          refine own_go (fun t₀ k₀ => XS.iconst X0.here hx rfl (Jvm.hb hby d2_28) k₀) ?_
          show Gm p e below s₁ m 29 #[iv p0] [(.int (4 : Int32)), (.int p0)] _
          by_cases c5 : p0 = (4 : Int32)
          · have hfork := trivial
            refine own_go (fun t₀ k₀ => XS.icmpNo X0.here hx rfl (Jvm.hb hby d2_29) rfl (XT.ii_ne_f c5) k₀) ?_
            show Gm p e below s₁ m 32 #[iv p0] [] _
            refine own_go (fun t₀ k₀ => XS.iconst X0.here hx rfl (Jvm.hb hby d2_32) k₀) ?_
            show Gm p e below s₁ m 33 #[iv p0] [(.int (1 : Int32))] _
            exact own_retI X0 hx hlk (t := .boolean) Bd.returns rfl (by simp) (Jvm.hb hby d2_33) e0 ⟨(by unfold fE; rw [if_neg c1, if_neg c2, if_neg c3, if_neg c4, if_pos c5]), N0, rfl⟩ (by decide) (by decide)
          · have hfork := trivial
            refine own_go (fun t₀ k₀ => XS.icmpYes X0.here hx rfl (pc0 := 29) (pc' := 34) rfl (Jvm.hb hby d2_29) rfl (XT.ii_ne_t c5) (by decide) (by decide) k₀) ?_
            show Gm p e below s₁ m 34 #[iv p0] [] _
            refine own_go (fun t₀ k₀ => XS.iloadN X0.here hx rfl (Jvm.hb hby d2_34) rfl k₀) ?_
            show Gm p e below s₁ m 35 #[iv p0] [(.int p0)] _
            refine own_go (fun t₀ k₀ => XS.iconst X0.here hx rfl (Jvm.hb hby d2_35) k₀) ?_
            show Gm p e below s₁ m 36 #[iv p0] [(.int (5 : Int32)), (.int p0)] _
            by_cases c6 : p0 = (5 : Int32)
            · have hfork := trivial
              refine own_go (fun t₀ k₀ => XS.icmpNo X0.here hx rfl (Jvm.hb hby d2_36) rfl (XT.ii_ne_f c6) k₀) ?_
              show Gm p e below s₁ m 39 #[iv p0] [] _
              refine own_go (fun t₀ k₀ => XS.iconst X0.here hx rfl (Jvm.hb hby d2_39) k₀) ?_
              show Gm p e below s₁ m 40 #[iv p0] [(.int (0 : Int32))] _
              exact own_retI X0 hx hlk (t := .boolean) Bd.returns rfl (by simp) (Jvm.hb hby d2_40) e0 ⟨(by unfold fE; rw [if_neg c1, if_neg c2, if_neg c3, if_neg c4, if_neg c5, if_pos c6]), N0, rfl⟩ (by decide) (by decide)
            · have hfork := trivial
              refine own_go (fun t₀ k₀ => XS.icmpYes X0.here hx rfl (pc0 := 36) (pc' := 41) rfl (Jvm.hb hby d2_36) rfl (XT.ii_ne_t c6) (by decide) (by decide) k₀) ?_
              show Gm p e below s₁ m 41 #[iv p0] [] _
              refine own_go (fun t₀ k₀ => XS.iloadN X0.here hx rfl (Jvm.hb hby d2_41) rfl k₀) ?_
              show Gm p e below s₁ m 42 #[iv p0] [(.int p0)] _
              refine own_go (fun t₀ k₀ => XS.bipush X0.here hx rfl (Jvm.hb hby d2_42) k₀) ?_
              show Gm p e below s₁ m 44 #[iv p0] [(.int (6 : Int32)), (.int p0)] _
              by_cases c7 : p0 = (6 : Int32)
              · have hfork := trivial
                refine own_go (fun t₀ k₀ => XS.icmpNo X0.here hx rfl (Jvm.hb hby d2_44) rfl (XT.ii_ne_f c7) k₀) ?_
                show Gm p e below s₁ m 47 #[iv p0] [] _
                refine own_go (fun t₀ k₀ => XS.iconst X0.here hx rfl (Jvm.hb hby d2_47) k₀) ?_
                show Gm p e below s₁ m 48 #[iv p0] [(.int (1 : Int32))] _
                exact own_retI X0 hx hlk (t := .boolean) Bd.returns rfl (by simp) (Jvm.hb hby d2_48) e0 ⟨(by unfold fE; rw [if_neg c1, if_neg c2, if_neg c3, if_neg c4, if_neg c5, if_neg c6, if_pos c7]), N0, rfl⟩ (by decide) (by decide)
              · have hfork := trivial
                refine own_go (fun t₀ k₀ => XS.icmpYes X0.here hx rfl (pc0 := 44) (pc' := 49) rfl (Jvm.hb hby d2_44) rfl (XT.ii_ne_t c7) (by decide) (by decide) k₀) ?_
                show Gm p e below s₁ m 49 #[iv p0] [] _
                refine own_go (fun t₀ k₀ => XS.iconst X0.here hx rfl (Jvm.hb hby d2_49) k₀) ?_
                show Gm p e below s₁ m 50 #[iv p0] [(.int (0 : Int32))] _
                exact own_retI X0 hx hlk (t := .boolean) Bd.returns rfl (by simp) (Jvm.hb hby d2_50) e0 ⟨(by unfold fE; rw [if_neg c1, if_neg c2, if_neg c3, if_neg c4, if_neg c5, if_neg c6, if_neg c7]), N0, rfl⟩ (by decide) (by decide)
def fR (b : Int32) : Int32 := if chOf b = (49 : Int32) then 1 else if chOf b = (54 : Int32) then 1 else 0
theorem d3_0 : decode prog_40_method_6_code 0 = .ok (.aload_n 0, 1) := by decide +kernel
theorem d3_1 : decode prog_40_method_6_code 1 = .ok (.getfield 47, 3) := by decide +kernel
theorem d3_4 : decode prog_40_method_6_code 4 = .ok (.iconst 1, 1) := by decide +kernel
theorem d3_5 : decode prog_40_method_6_code 5 = .ok (.invokevirtual 51, 3) := by decide +kernel
theorem d3_8 : decode prog_40_method_6_code 8 = .ok (.bipush 49, 2) := by decide +kernel
theorem d3_10 : decode prog_40_method_6_code 10 = .ok (.if_icmp .eq 16, 3) := by decide +kernel
theorem d3_13 : decode prog_40_method_6_code 13 = .ok (.aload_n 0, 1) := by decide +kernel
theorem d3_14 : decode prog_40_method_6_code 14 = .ok (.getfield 47, 3) := by decide +kernel
theorem d3_17 : decode prog_40_method_6_code 17 = .ok (.iconst 1, 1) := by decide +kernel
theorem d3_18 : decode prog_40_method_6_code 18 = .ok (.invokevirtual 51, 3) := by decide +kernel
theorem d3_21 : decode prog_40_method_6_code 21 = .ok (.bipush 54, 2) := by decide +kernel
theorem d3_23 : decode prog_40_method_6_code 23 = .ok (.if_icmp .ne 7, 3) := by decide +kernel
theorem d3_26 : decode prog_40_method_6_code 26 = .ok (.iconst 1, 1) := by decide +kernel
theorem d3_27 : decode prog_40_method_6_code 27 = .ok (.goto 4, 3) := by decide +kernel
theorem d3_30 : decode prog_40_method_6_code 30 = .ok (.iconst 0, 1) := by decide +kernel
theorem d3_31 : decode prog_40_method_6_code 31 = .ok (.ireturn, 1) := by decide +kernel
theorem own_pd4 : parseMethodDescriptor "(I)C" = some ⟨[.int], some .char⟩ := by decide +kernel
theorem own_pn_rm3 : plainName "com/example/outlay/outlay/nacha/TransactionCode" = true := by first | (simp [plainName, overriddenIn]; done) | decide +kernel
theorem own_ef_rm3 (m : MethodId) (r0 : Addr) : entryFrame m #[(.ref r0)] 1 = mkF m 0 #[.val (.ref r0)] [] := by first | (simp [entryFrame, mkF, argsToLocals, Value.category]; done) | rfl
def Q3 (Z : State) (r0 : Addr) (b : Int32) (cs : Int32) (w : Value) (h0 : Heap) (n0 : Nat) (v : Option Value) (h : Heap) (L : List Loc) : Prop := v = some (.int (fR b)) ∧ Fr n0 L ∧ h = h0
set_option maxRecDepth 65536 in
set_option maxHeartbeats 40000000 in
theorem rm3 (l : Launch) (Z : State) (a0 : Array Value) (hw : ∀ d ∈ tables_1, d.before a0 Z = true) (ws : List Jvm.Cond) (r0 : Addr) (b : Int32) (cs : Int32) (w : Value) (h0 : Heap) (n0 : Nat) (Z0 : n0 ≤ h0.size) (H : TC Z h0 r0 b) (S_c : Sta Z h0 "java/lang/String" "COMPACT_STRINGS" "Z" (.int cs)) (hcs : ¬ cs = 0) (S_f : Sta Z h0 "jdk/internal/util/Preconditions" "SIOOBE_FORMATTER" "Ljava/util/function/BiFunction;" w) (hv_w : w.isRef = true) :
    MetFree l (⟨"com/example/outlay/outlay/nacha/TransactionCode", "isReturn", "()Z"⟩ : MethodName) (head1 (Jvm.Cond.code (⟨"com/example/outlay/outlay/nacha/TransactionCode", "isReturn", "()Z"⟩ : MethodName) prog_40_method_6_code 1 (some .boolean) :: ws) ({ frames := 4, cells := 0, slots := 0, locals := 53 } : Room)) (fun a U => a = #[(.ref r0)] ∧ Z.Warmed39 U.vm ∧ U.heap = h0) (fun _ _ _ _ _ => True) (fun _ U o U' => ∃ v L, o = .returned v ∧ Q3 Z r0 b cs w h0 n0 v U'.heap L ∧ FrameEnd U o U' L ({ frames := 4, cells := 0, slots := 0, locals := 53 } : Room).cells ({ frames := 4, cells := 0, slots := 0, locals := 53 } : Room).slots) := by
  refine MetFree.of_bodySF (plainFor_of_name own_pn_rm3) hisR ?_
  intro p e s m args below meth c s₁ Bd hml0 hP hK
  obtain ⟨rfl, hZ, hh⟩ := hP
  have hx := Bd.exec
  have hby := Bd.bytes
  have hml : c.maxLocals = 1 := hml0
  have hown : s.vm.findClass "com/example/outlay/outlay/nacha/TransactionCode" = some m.cls := findClass_of_methodNamed Bd.named
  have hnm := (name_of_methodNamed Bd.named Bd.method).1
  have hlk : meth.locks = false := BodyLoose.notSynchronized Bd
  have X0 : Stand p l e ({ frames := 4, cells := 0, slots := 0, locals := 53 } : Room) s m #[(.ref r0)] below meth c s₁ [] 0 0 := Stand.of_body Bd
  have e0 : s₁.heap = h0 := by rw [← hh, Bd.state]; rfl
  have N0 := Fr.nil n0
  obtain ⟨E_t, st, bv, f, F_code, E_st, F_cd, F_v, A, hf⟩ := H
  refine own_in (own_ef_rm3 m r0) ?_
  show Gm p e below s₁ m 0 #[rv r0] [] _
  refine own_go (fun t₀ k₀ => XS.aloadN X0.here hx rfl (Jvm.hb hby d3_0) rfl rfl k₀) ?_
  show Gm p e below s₁ m 1 #[rv r0] [(.ref r0)] _
  obtain ⟨T1, X1, e1, st1⟩ := getF X0 hx hZ hown (host := "") (Or.inl (hw _ (List.mem_of_getElem? (i := 15) rfl))) Via.refl e0 F_code (g := (mkF m 1 #[rv r0] [(.ref r0)])) rfl rfl (Jvm.hb hby d3_1)
  refine own_go st1 ?_
  show Gm p e below T1 m 4 #[rv r0] [(.ref st)] _
  refine own_go (fun t₀ k₀ => XS.iconst X1.here hx rfl (Jvm.hb hby d3_4) k₀) ?_
  show Gm p e below T1 m 5 #[rv r0] [(.int (1 : Int32)), (.ref st)] _
  obtain ⟨cq2, kq2, q2a, q2b, q2c⟩ := isOf hZ e1 E_st
  obtain ⟨_, _, ⟨T2, L2, k2, n2⟩, -, X2, ⟨Lc2, hQ2, l2, y2, z2⟩, st2⟩ := X1.virtualBack hx (y := (⟨"java/lang/String", "charAt", "(I)C"⟩ : MethodName)) (z := (⟨"java/lang/String", "charAt", "(I)C"⟩ : MethodName)) hown (mvT hZ (hw _ (List.mem_of_getElem? (i := 17) rfl))) (mvT hZ (hw _ (List.mem_of_getElem? (i := 18) rfl))) (notFace_of_selects (args := #[]) (mvT hZ (hw _ (List.mem_of_getElem? (i := 20) rfl)))) (mvT hZ (hw _ (List.mem_of_getElem? (i := 20) rfl))) (mvT hZ (hw _ (List.mem_of_getElem? (i := 19) rfl))) (by decide) (backOf (W := 0) (rm4 l Z a0 hw [] st (1 : Int32) bv 2 f b cs w h0 n0 Z0 E_st F_cd F_v A (by decide) (by decide) (by decide) hf S_c hcs S_f hv_w) hZ (hw _ (List.mem_of_getElem? (i := 22) rfl)) (hw _ (List.mem_of_getElem? (i := 21) rfl)) (by decide) (by decide)) q2a q2c (g := (mkF m 5 #[rv r0] [(.int (1 : Int32)), (.ref st)])) rfl (by rw [hml]; rfl) (Steps.refl _) (argsL := [(.int (1 : Int32))]) (rest := []) (lenOf own_pd4 rfl) rfl (by show 2 * 0 + _ ≤ _; exact Nat.le_of_eq rfl) (Jvm.hb hby d3_5) (fun _ _ => ⟨rfl, e1, (by decide : 0 + 0 ≤ _), (by decide : 0 + 0 ≤ _)⟩)
  dsimp only [Pt.U, Pt.locs, Pt.cells, Pt.slots] at X2 l2 y2 z2 st2 hQ2
  subst l2 y2 z2
  obtain ⟨rfl, Nq2, eq2⟩ := hQ2
  have N2 := Fr.app N0 Nq2
  have e2 : T2.heap = h0 := eq2
  refine own_go (fun t k => st2.trans k) ?_
  show Gm p e below T2 m 8 #[rv r0] [(.int (chOf b))] _
  refine own_go (fun t₀ k₀ => XS.bipush X2.here hx rfl (Jvm.hb hby d3_8) k₀) ?_
  show Gm p e below T2 m 10 #[rv r0] [(.int (49 : Int32)), (.int (chOf b))] _
  by_cases c3 : (chOf b) = (49 : Int32)
  · have hfork := trivial
    refine own_go (fun t₀ k₀ => XS.icmpYes X2.here hx rfl (pc0 := 10) (pc' := 26) rfl (Jvm.hb hby d3_10) rfl (XT.ii_eq_t c3) (by decide) (by decide) k₀) ?_
    show Gm p e below T2 m 26 #[rv r0] [] _
    refine own_go (fun t₀ k₀ => XS.iconst X2.here hx rfl (Jvm.hb hby d3_26) k₀) ?_
    show Gm p e below T2 m 27 #[rv r0] [(.int (1 : Int32))] _
    refine own_go (fun t₀ k₀ => XS.goto X2.here hx rfl (pc0 := 27) (pc' := 31) rfl (Jvm.hb hby d3_27) (by decide) (by decide) k₀) ?_
    show Gm p e below T2 m 31 #[rv r0] [(.int (1 : Int32))] _
    exact own_retI X2 hx hlk (t := .boolean) Bd.returns rfl (by simp) (Jvm.hb hby d3_31) e2 ⟨(by unfold fR; rw [if_pos c3]), N2, rfl⟩ (by decide) (by decide)
  · have hfork := trivial
    refine own_go (fun t₀ k₀ => XS.icmpNo X2.here hx rfl (Jvm.hb hby d3_10) rfl (XT.ii_eq_f c3) k₀) ?_
    show Gm p e below T2 m 13 #[rv r0] [] _
    refine own_go (fun t₀ k₀ => XS.aloadN X2.here hx rfl (Jvm.hb hby d3_13) rfl rfl k₀) ?_
    show Gm p e below T2 m 14 #[rv r0] [(.ref r0)] _
    obtain ⟨T4, X4, e4, st4⟩ := getF X2 hx hZ hown (host := "") (Or.inl (hw _ (List.mem_of_getElem? (i := 15) rfl))) Via.refl e2 F_code (g := (mkF m 14 #[rv r0] [(.ref r0)])) rfl rfl (Jvm.hb hby d3_14)
    refine own_go st4 ?_
    show Gm p e below T4 m 17 #[rv r0] [(.ref st)] _
    refine own_go (fun t₀ k₀ => XS.iconst X4.here hx rfl (Jvm.hb hby d3_17) k₀) ?_
    show Gm p e below T4 m 18 #[rv r0] [(.int (1 : Int32)), (.ref st)] _
    obtain ⟨cq5, kq5, q5a, q5b, q5c⟩ := isOf hZ e4 E_st
    obtain ⟨_, _, ⟨T5, L5, k5, n5⟩, -, X5, ⟨Lc5, hQ5, l5, y5, z5⟩, st5⟩ := X4.virtualBack hx (y := (⟨"java/lang/String", "charAt", "(I)C"⟩ : MethodName)) (z := (⟨"java/lang/String", "charAt", "(I)C"⟩ : MethodName)) hown (mvT hZ (hw _ (List.mem_of_getElem? (i := 17) rfl))) (mvT hZ (hw _ (List.mem_of_getElem? (i := 18) rfl))) (notFace_of_selects (args := #[]) (mvT hZ (hw _ (List.mem_of_getElem? (i := 20) rfl)))) (mvT hZ (hw _ (List.mem_of_getElem? (i := 20) rfl))) (mvT hZ (hw _ (List.mem_of_getElem? (i := 19) rfl))) (by decide) (backOf (W := 0) (rm4 l Z a0 hw [] st (1 : Int32) bv 2 f b cs w h0 n0 Z0 E_st F_cd F_v A (by decide) (by decide) (by decide) hf S_c hcs S_f hv_w) hZ (hw _ (List.mem_of_getElem? (i := 22) rfl)) (hw _ (List.mem_of_getElem? (i := 21) rfl)) (by decide) (by decide)) q5a q5c (g := (mkF m 18 #[rv r0] [(.int (1 : Int32)), (.ref st)])) rfl (by rw [hml]; rfl) (Steps.refl _) (argsL := [(.int (1 : Int32))]) (rest := []) (lenOf own_pd4 rfl) rfl (by show 2 * 0 + _ ≤ _; exact Nat.le_of_eq rfl) (Jvm.hb hby d3_18) (fun _ _ => ⟨rfl, e4, (by decide : 0 + 0 ≤ _), (by decide : 0 + 0 ≤ _)⟩)
    dsimp only [Pt.U, Pt.locs, Pt.cells, Pt.slots] at X5 l5 y5 z5 st5 hQ5
    subst l5 y5 z5
    obtain ⟨rfl, Nq5, eq5⟩ := hQ5
    have N5 := Fr.app N2 Nq5
    have e5 : T5.heap = h0 := eq5
    refine own_go (fun t k => st5.trans k) ?_
    show Gm p e below T5 m 21 #[rv r0] [(.int (chOf b))] _
    refine own_go (fun t₀ k₀ => XS.bipush X5.here hx rfl (Jvm.hb hby d3_21) k₀) ?_
    show Gm p e below T5 m 23 #[rv r0] [(.int (54 : Int32)), (.int (chOf b))] _
    by_cases c6 : (chOf b) = (54 : Int32)
    · have hfork := trivial
      refine own_go (fun t₀ k₀ => XS.icmpNo X5.here hx rfl (Jvm.hb hby d3_23) rfl (XT.ii_ne_f c6) k₀) ?_
      show Gm p e below T5 m 26 #[rv r0] [] _
      refine own_go (fun t₀ k₀ => XS.iconst X5.here hx rfl (Jvm.hb hby d3_26) k₀) ?_
      show Gm p e below T5 m 27 #[rv r0] [(.int (1 : Int32))] _
      refine own_go (fun t₀ k₀ => XS.goto X5.here hx rfl (pc0 := 27) (pc' := 31) rfl (Jvm.hb hby d3_27) (by decide) (by decide) k₀) ?_
      show Gm p e below T5 m 31 #[rv r0] [(.int (1 : Int32))] _
      exact own_retI X5 hx hlk (t := .boolean) Bd.returns rfl (by simp) (Jvm.hb hby d3_31) e5 ⟨(by unfold fR; rw [if_neg c3, if_pos c6]), N5, rfl⟩ (by decide) (by decide)
    · have hfork := trivial
      refine own_go (fun t₀ k₀ => XS.icmpYes X5.here hx rfl (pc0 := 23) (pc' := 30) rfl (Jvm.hb hby d3_23) rfl (XT.ii_ne_t c6) (by decide) (by decide) k₀) ?_
      show Gm p e below T5 m 30 #[rv r0] [] _
      refine own_go (fun t₀ k₀ => XS.iconst X5.here hx rfl (Jvm.hb hby d3_30) k₀) ?_
      show Gm p e below T5 m 31 #[rv r0] [(.int (0 : Int32))] _
      exact own_retI X5 hx hlk (t := .boolean) Bd.returns rfl (by simp) (Jvm.hb hby d3_31) e5 ⟨(by unfold fR; rw [if_neg c3, if_neg c6]), N5, rfl⟩ (by decide) (by decide)
def bOf (k : Int32) : Int32 := if k = 0 then 49 else if k = 1 then 50 else if k = 2 then 54 else if k = 3 then 55 else if k = 4 then 49 else if k = 5 then 50 else if k = 6 then 54 else 55
theorem own_tc {Z : State} {h : Heap} {w0 w1 w2 w3 w4 w5 w6 w7 : Addr} (k : Int32) (H0 : TC Z h w0 49) (H1 : TC Z h w1 50) (H2 : TC Z h w2 54) (H3 : TC Z h w3 55) (H4 : TC Z h w4 49) (H5 : TC Z h w5 50) (H6 : TC Z h w6 54) (H7 : TC Z h w7 55) : TC Z h (fP k w0 w1 w2 w3 w4 w5 w6 w7) (bOf k) := by
  unfold fP bOf
  by_cases c0 : k = 0
  · rw [if_pos c0, if_pos c0]; exact H0
  rw [if_neg c0, if_neg c0]
  by_cases c1 : k = 1
  · rw [if_pos c1, if_pos c1]; exact H1
  rw [if_neg c1, if_neg c1]
  by_cases c2 : k = 2
  · rw [if_pos c2, if_pos c2]; exact H2
  rw [if_neg c2, if_neg c2]
  by_cases c3 : k = 3
  · rw [if_pos c3, if_pos c3]; exact H3
  rw [if_neg c3, if_neg c3]
  by_cases c4 : k = 4
  · rw [if_pos c4, if_pos c4]; exact H4
  rw [if_neg c4, if_neg c4]
  by_cases c5 : k = 5
  · rw [if_pos c5, if_pos c5]; exact H5
  rw [if_neg c5, if_neg c5]
  by_cases c6 : k = 6
  · rw [if_pos c6, if_pos c6]; exact H6
  rw [if_neg c6, if_neg c6]
  exact H7
theorem own_law (k : Int32) : fR (bOf k) = fE k := by
  unfold bOf fE
  by_cases c0 : k = 0
  · rw [if_pos c0, if_pos c0]; decide
  rw [if_neg c0, if_neg c0]
  by_cases c1 : k = 1
  · rw [if_pos c1, if_pos c1]; decide
  rw [if_neg c1, if_neg c1]
  by_cases c2 : k = 2
  · rw [if_pos c2, if_pos c2]; decide
  rw [if_neg c2, if_neg c2]
  by_cases c3 : k = 3
  · rw [if_pos c3, if_pos c3]; decide
  rw [if_neg c3, if_neg c3]
  by_cases c4 : k = 4
  · rw [if_pos c4, if_pos c4]; decide
  rw [if_neg c4, if_neg c4]
  by_cases c5 : k = 5
  · rw [if_pos c5, if_pos c5]; decide
  rw [if_neg c5, if_neg c5]
  by_cases c6 : k = 6
  · rw [if_pos c6, if_pos c6]; decide
  rw [if_neg c6, if_neg c6]
  decide
theorem own_pd5 : parseMethodDescriptor "(I)Lcom/example/outlay/outlay/nacha/TransactionCode;" = some ⟨[.int], some (.object "com/example/outlay/outlay/nacha/TransactionCode")⟩ := by decide +kernel
theorem own_pd6 : parseMethodDescriptor "(I)Z" = some ⟨[.int], some .boolean⟩ := by decide +kernel
theorem own_pn_rm0 : plainName "com/example/outlay/outlay/nacha/TransactionCodeIsReturnPinLaw" = true := by first | (simp [plainName, overriddenIn]; done) | decide +kernel
theorem own_ef_rm0 (m : MethodId) (p0 : Int32) : entryFrame m #[(.int p0)] maxLocals = mkF m 0 #[.val (.int p0), .unset, .unset, .unset] [] := by first | (simp [entryFrame, mkF, argsToLocals, Value.category, maxLocals]; done) | rfl
def Q0 (Z : State) (p0 : Int32) (w0 : Addr) (w1 : Addr) (w2 : Addr) (w3 : Addr) (w4 : Addr) (w5 : Addr) (w6 : Addr) (w7 : Addr) (cs : Int32) (w : Value) (h0 : Heap) (n0 : Nat) (v : Option Value) (h : Heap) (L : List Loc) : Prop := v = some (.int 1) ∧ Fr n0 L
set_option maxRecDepth 65536 in
set_option maxHeartbeats 40000000 in
theorem rm0 (l : Launch) (Z : State) (a0 : Array Value) (hw : ∀ d ∈ tables_1, d.before a0 Z = true) (ws : List Jvm.Cond) (p0 : Int32) (w0 : Addr) (w1 : Addr) (w2 : Addr) (w3 : Addr) (w4 : Addr) (w5 : Addr) (w6 : Addr) (w7 : Addr) (cs : Int32) (w : Value) (h0 : Heap) (n0 : Nat) (Z0 : n0 ≤ h0.size) (S_w0 : Sta Z h0 "com/example/outlay/outlay/nacha/TransactionCode" "CHECKING_CREDIT_RETURN" "Lcom/example/outlay/outlay/nacha/TransactionCode;" (.ref w0)) (S_w1 : Sta Z h0 "com/example/outlay/outlay/nacha/TransactionCode" "CHECKING_CREDIT" "Lcom/example/outlay/outlay/nacha/TransactionCode;" (.ref w1)) (S_w2 : Sta Z h0 "com/example/outlay/outlay/nacha/TransactionCode" "CHECKING_DEBIT_RETURN" "Lcom/example/outlay/outlay/nacha/TransactionCode;" (.ref w2)) (S_w3 : Sta Z h0 "com/example/outlay/outlay/nacha/TransactionCode" "CHECKING_DEBIT" "Lcom/example/outlay/outlay/nacha/TransactionCode;" (.ref w3)) (S_w4 : Sta Z h0 "com/example/outlay/outlay/nacha/TransactionCode" "SAVINGS_CREDIT_RETURN" "Lcom/example/outlay/outlay/nacha/TransactionCode;" (.ref w4)) (S_w5 : Sta Z h0 "com/example/outlay/outlay/nacha/TransactionCode" "SAVINGS_CREDIT" "Lcom/example/outlay/outlay/nacha/TransactionCode;" (.ref w5)) (S_w6 : Sta Z h0 "com/example/outlay/outlay/nacha/TransactionCode" "SAVINGS_DEBIT_RETURN" "Lcom/example/outlay/outlay/nacha/TransactionCode;" (.ref w6)) (S_w7 : Sta Z h0 "com/example/outlay/outlay/nacha/TransactionCode" "SAVINGS_DEBIT" "Lcom/example/outlay/outlay/nacha/TransactionCode;" (.ref w7)) (H0 : TC Z h0 w0 49) (H1 : TC Z h0 w1 50) (H2 : TC Z h0 w2 54) (H3 : TC Z h0 w3 55) (H4 : TC Z h0 w4 49) (H5 : TC Z h0 w5 50) (H6 : TC Z h0 w6 54) (H7 : TC Z h0 w7 55) (S_c : Sta Z h0 "java/lang/String" "COMPACT_STRINGS" "Z" (.int cs)) (hcs : ¬ cs = 0) (S_f : Sta Z h0 "jdk/internal/util/Preconditions" "SIOOBE_FORMATTER" "Ljava/util/function/BiFunction;" w) (hv_w : w.isRef = true) :
    MetFree l x (head1 (Jvm.Cond.code x code maxLocals ret :: ws) room_1) (fun a U => a = #[(.int p0)] ∧ Z.Warmed39 U.vm ∧ U.heap = h0) (fun _ _ _ _ _ => True) (fun _ U o U' => ∃ v L, o = .returned v ∧ Q0 Z p0 w0 w1 w2 w3 w4 w5 w6 w7 cs w h0 n0 v U'.heap L ∧ FrameEnd U o U' L room_1.cells room_1.slots) := by
  refine MetFree.of_bodySF (plainFor_of_name own_pn_rm0) hisR ?_
  intro p e s m args below meth c s₁ Bd hml0 hP hK
  obtain ⟨rfl, hZ, hh⟩ := hP
  have hx := Bd.exec
  have hby := Bd.bytes
  have hml : c.maxLocals = 4 := hml0
  have hown : s.vm.findClass "com/example/outlay/outlay/nacha/TransactionCodeIsReturnPinLaw" = some m.cls := findClass_of_methodNamed Bd.named
  have hnm := (name_of_methodNamed Bd.named Bd.method).1
  have hlk : meth.locks = false := BodyLoose.notSynchronized Bd
  have X0 : Stand p l e room_1 s m #[(.int p0)] below meth c s₁ [] 0 0 := Stand.of_body Bd
  have e0 : s₁.heap = h0 := by rw [← hh, Bd.state]; rfl
  have N0 := Fr.nil n0
  refine own_in (own_ef_rm0 m p0) ?_
  show Gm p e below s₁ m 0 #[iv p0, .unset, .unset, .unset] [] _
  refine own_go (fun t₀ k₀ => XS.iloadN X0.here hx rfl (Jvm.hb hby at_0) rfl k₀) ?_
  show Gm p e below s₁ m 1 #[iv p0, .unset, .unset, .unset] [(.int p0)] _
  refine own_go (fun t₀ k₀ => XS.bipush X0.here hx rfl (Jvm.hb hby at_1) k₀) ?_
  show Gm p e below s₁ m 3 #[iv p0, .unset, .unset, .unset] [(.int (7 : Int32)), (.int p0)] _
  refine own_go (fun t₀ k₀ => XS.iand X0.here hx rfl (Jvm.hb hby at_3) rfl k₀) ?_
  show Gm p e below s₁ m 4 #[iv p0, .unset, .unset, .unset] [(.int (p0 &&& (7 : Int32)))] _
  refine own_go (fun t₀ k₀ => XS.istoreN X0.here hx rfl (Jvm.hb hby at_4) rfl (l' := #[iv p0, iv (p0 &&& (7 : Int32)), .unset, .unset]) rfl k₀) ?_
  show Gm p e below s₁ m 5 #[iv p0, iv (p0 &&& (7 : Int32)), .unset, .unset] [] _
  obtain ⟨k, h_k⟩ : ∃ z : Int32, z = (p0 &&& (7 : Int32)) := ⟨_, rfl⟩
  rw [← h_k]
  show Gm p e below s₁ m 5 #[iv p0, iv k, .unset, .unset] [] _
  refine own_go (fun t₀ k₀ => XS.iloadN X0.here hx rfl (Jvm.hb hby at_5) rfl k₀) ?_
  show Gm p e below s₁ m 6 #[iv p0, iv k, .unset, .unset] [(.int k)] _
  obtain ⟨_, _, ⟨T2, L2, k2, n2⟩, -, X2, ⟨Lc2, hQ2, l2, y2, z2⟩, st2⟩ := Jvm.LawKit.callS X0 hx (y := (⟨"com/example/outlay/outlay/nacha/TransactionCodeIsReturnPinLaw", "pick", "(I)Lcom/example/outlay/outlay/nacha/TransactionCode;"⟩ : MethodName)) hown (mvT hZ (hw _ (List.mem_of_getElem? (i := 0) rfl))) (mvT hZ (hw _ (List.mem_of_getElem? (i := 1) rfl))) (mvT hZ (hw _ (List.mem_of_getElem? (i := 2) rfl))) (mvT hZ (hw _ (List.mem_of_getElem? (i := 3) rfl))) (by decide) (backOf (W := 0) (rm1 l Z a0 hw [] k w0 w1 w2 w3 w4 w5 w6 w7 h0 n0 Z0 S_w0 S_w1 S_w2 S_w3 S_w4 S_w5 S_w6 S_w7) hZ (hw _ (List.mem_of_getElem? (i := 3) rfl)) (hw _ (List.mem_of_getElem? (i := 2) rfl)) (by decide) (by decide)) (g := (mkF m 6 #[iv p0, iv k, .unset, .unset] [(.int k)])) rfl (by rw [hml]; rfl) (argsL := [(.int k)]) (rest := []) (lenOf own_pd5 rfl) rfl (by show 2 * 0 + _ ≤ _; exact Nat.le_of_eq rfl) (Jvm.hb hby at_6) (fun _ _ => ⟨rfl, e0, (by decide : 0 + 0 ≤ _), (by decide : 0 + 0 ≤ _)⟩)
  dsimp only [Pt.U, Pt.locs, Pt.cells, Pt.slots] at X2 l2 y2 z2 st2 hQ2
  subst l2 y2 z2
  obtain ⟨rfl, Nq2, eq2⟩ := hQ2
  have N2 := Fr.app N0 Nq2
  have e2 : T2.heap = h0 := eq2
  refine own_go st2 ?_
  show Gm p e below T2 m 9 #[iv p0, iv k, .unset, .unset] [(.ref (fP k w0 w1 w2 w3 w4 w5 w6 w7))] _
  refine own_go (fun t₀ k₀ => XS.astoreN X2.here hx rfl (Jvm.hb hby at_9) rfl rfl (l' := #[iv p0, iv k, rv (fP k w0 w1 w2 w3 w4 w5 w6 w7), .unset]) rfl k₀) ?_
  show Gm p e below T2 m 10 #[iv p0, iv k, rv (fP k w0 w1 w2 w3 w4 w5 w6 w7), .unset] [] _
  refine own_go (fun t₀ k₀ => XS.iloadN X2.here hx rfl (Jvm.hb hby at_10) rfl k₀) ?_
  show Gm p e below T2 m 11 #[iv p0, iv k, rv (fP k w0 w1 w2 w3 w4 w5 w6 w7), .unset] [(.int k)] _
  obtain ⟨_, _, ⟨T3, L3, k3, n3⟩, -, X3, ⟨Lc3, hQ3, l3, y3, z3⟩, st3⟩ := Jvm.LawKit.callS X2 hx (y := (⟨"com/example/outlay/outlay/nacha/TransactionCodeIsReturnPinLaw", "expectedReturn", "(I)Z"⟩ : MethodName)) hown (mvT hZ (hw _ (List.mem_of_getElem? (i := 7) rfl))) (mvT hZ (hw _ (List.mem_of_getElem? (i := 8) rfl))) (mvT hZ (hw _ (List.mem_of_getElem? (i := 2) rfl))) (mvT hZ (hw _ (List.mem_of_getElem? (i := 9) rfl))) (by decide) (backOf (W := 0) (rm2 l Z a0 hw [] k h0 n0 Z0) hZ (hw _ (List.mem_of_getElem? (i := 9) rfl)) (hw _ (List.mem_of_getElem? (i := 2) rfl)) (by decide) (by decide)) (g := (mkF m 11 #[iv p0, iv k, rv (fP k w0 w1 w2 w3 w4 w5 w6 w7), .unset] [(.int k)])) rfl (by rw [hml]; rfl) (argsL := [(.int k)]) (rest := []) (lenOf own_pd6 rfl) rfl (by show 2 * 0 + _ ≤ _; exact Nat.le_of_eq rfl) (Jvm.hb hby at_11) (fun _ _ => ⟨rfl, e2, (by decide : 0 + 0 ≤ _), (by decide : 0 + 0 ≤ _)⟩)
  dsimp only [Pt.U, Pt.locs, Pt.cells, Pt.slots] at X3 l3 y3 z3 st3 hQ3
  subst l3 y3 z3
  obtain ⟨rfl, Nq3, eq3⟩ := hQ3
  have N3 := Fr.app N2 Nq3
  have e3 : T3.heap = h0 := eq3
  refine own_go st3 ?_
  show Gm p e below T3 m 14 #[iv p0, iv k, rv (fP k w0 w1 w2 w3 w4 w5 w6 w7), .unset] [(.int (fE k))] _
  refine own_go (fun t₀ k₀ => XS.istoreN X3.here hx rfl (Jvm.hb hby at_14) rfl (l' := #[iv p0, iv k, rv (fP k w0 w1 w2 w3 w4 w5 w6 w7), iv (fE k)]) rfl k₀) ?_
  show Gm p e below T3 m 15 #[iv p0, iv k, rv (fP k w0 w1 w2 w3 w4 w5 w6 w7), iv (fE k)] [] _
  refine own_go (fun t₀ k₀ => XS.aloadN X3.here hx rfl (Jvm.hb hby at_15) rfl rfl k₀) ?_
  show Gm p e below T3 m 16 #[iv p0, iv k, rv (fP k w0 w1 w2 w3 w4 w5 w6 w7), iv (fE k)] [(.ref (fP k w0 w1 w2 w3 w4 w5 w6 w7))] _
  have HT : TC Z h0 (fP k w0 w1 w2 w3 w4 w5 w6 w7) (bOf k) := own_tc k H0 H1 H2 H3 H4 H5 H6 H7
  obtain ⟨cq4, kq4, q4a, q4b, q4c⟩ := isOf hZ e3 HT.1
  obtain ⟨_, _, ⟨T4, L4, k4, n4⟩, -, X4, ⟨Lc4, hQ4, l4, y4, z4⟩, st4⟩ := X3.virtualBack hx (y := (⟨"com/example/outlay/outlay/nacha/TransactionCode", "isReturn", "()Z"⟩ : MethodName)) (z := (⟨"com/example/outlay/outlay/nacha/TransactionCode", "isReturn", "()Z"⟩ : MethodName)) hown (mvT hZ (hw _ (List.mem_of_getElem? (i := 10) rfl))) (mvT hZ (hw _ (List.mem_of_getElem? (i := 11) rfl))) (notFace_of_selects (args := #[]) (mvT hZ (hw _ (List.mem_of_getElem? (i := 13) rfl)))) (mvT hZ (hw _ (List.mem_of_getElem? (i := 13) rfl))) (mvT hZ (hw _ (List.mem_of_getElem? (i := 12) rfl))) (by decide) (backOf (W := 0) (rm3 l Z a0 hw [] (fP k w0 w1 w2 w3 w4 w5 w6 w7) (bOf k) cs w h0 n0 Z0 HT S_c hcs S_f hv_w) hZ (hw _ (List.mem_of_getElem? (i := 14) rfl)) (hw _ (List.mem_of_getElem? (i := 5) rfl)) (by decide) (by decide)) q4a q4c (g := (mkF m 16 #[iv p0, iv k, rv (fP k w0 w1 w2 w3 w4 w5 w6 w7), iv (fE k)] [(.ref (fP k w0 w1 w2 w3 w4 w5 w6 w7))])) rfl (by rw [hml]; rfl) (Steps.refl _) (argsL := []) (rest := []) (lenOf own_pd2 rfl) rfl (by show 2 * 0 + _ ≤ _; exact Nat.le_of_eq rfl) (Jvm.hb hby at_16) (fun _ _ => ⟨rfl, e3, (by decide : 0 + 0 ≤ _), (by decide : 0 + 0 ≤ _)⟩)
  dsimp only [Pt.U, Pt.locs, Pt.cells, Pt.slots] at X4 l4 y4 z4 st4 hQ4
  subst l4 y4 z4
  obtain ⟨rfl, Nq4, eq4⟩ := hQ4
  have N4 := Fr.app N3 Nq4
  have e4 : T4.heap = h0 := eq4
  refine own_go (fun t k => st4.trans k) ?_
  show Gm p e below T4 m 19 #[iv p0, iv k, rv (fP k w0 w1 w2 w3 w4 w5 w6 w7), iv (fE k)] [(.int (fR (bOf k)))] _
  refine own_go (fun t₀ k₀ => XS.iloadN X4.here hx rfl (Jvm.hb hby at_19) rfl k₀) ?_
  show Gm p e below T4 m 20 #[iv p0, iv k, rv (fP k w0 w1 w2 w3 w4 w5 w6 w7), iv (fE k)] [(.int (fE k)), (.int (fR (bOf k)))] _
  refine own_go (fun t₀ k₀ => XS.icmpNo X4.here hx rfl (Jvm.hb hby at_20) rfl (XT.ii_ne_f (own_law _)) k₀) ?_
  show Gm p e below T4 m 23 #[iv p0, iv k, rv (fP k w0 w1 w2 w3 w4 w5 w6 w7), iv (fE k)] [] _
  refine own_go (fun t₀ k₀ => XS.iconst X4.here hx rfl (Jvm.hb hby at_23) k₀) ?_
  show Gm p e below T4 m 24 #[iv p0, iv k, rv (fP k w0 w1 w2 w3 w4 w5 w6 w7), iv (fE k)] [(.int (1 : Int32))] _
  refine own_go (fun t₀ k₀ => XS.goto X4.here hx rfl (pc0 := 24) (pc' := 28) rfl (Jvm.hb hby at_24) (by decide) (by decide) k₀) ?_
  show Gm p e below T4 m 28 #[iv p0, iv k, rv (fP k w0 w1 w2 w3 w4 w5 w6 w7), iv (fE k)] [(.int (1 : Int32))] _
  exact own_retI X4 hx hlk (t := .boolean) Bd.returns rfl (by simp) (Jvm.hb hby at_28) e4 ⟨rfl, N4⟩ (by decide) (by decide)
set_option maxRecDepth 65536 in
set_option maxHeartbeats 40000000 in
theorem comes_1 {Post : Tables → Env → Array Value → State → Outcome → State → Prop} (hpost : ∀ tb e args s v u, (limb_1_1.after args s (.returned v) u = true ∧ limb_1_2.after args s (.returned v) u = true ∧ True) → FrameEnd s (.returned v) u (Jvm.fieldLocs frame_1_writes args s ++ Jvm.arrayLocs frame_1_arrays args s ++ Jvm.staticLocs frame_1_statics s) 0 0 → Post tb e args s (.returned v) u) :
    ArmFor flags0 classFile x code maxLocals ret World_1 tables_1 room_1 Calls_1 rest_1 Pre_1 Post := by
  intro l hfl _ _ p e ha hc hk s m args below hf hA hF happ hP
  obtain ⟨hcalls, hrest, hpre⟩ := hP
  obtain ⟨-, -, -, hnamed, -, -, -, hat⟩ := (Spec.applies_iff hf).mp happ
  obtain ⟨hg, hn⟩ := and_e (Cond.before_iff.mp (show (Jvm.Cond.and given_1 narrow_1).before args s = true from hpre))
  obtain ⟨g1, g2⟩ := and_e hg
  obtain ⟨w0, rfl⟩ : ∃ w0 : Value, args = #[w0] := by
    have hs : args.size = 1 := by simpa [Cond.value, given_1] using g1
    obtain ⟨L⟩ := args
    match L, hs with
    | [w0], _ => exact ⟨w0, rfl⟩
  have hw := fun d (hd : d ∈ tables_1) => atoms_spec (ws := Jvm.Cond.code x code maxLocals ret :: tables_1) hat d (List.mem_cons_of_mem _ hd)
  have hfit : Fit s := fun {y c} hc i hi => by
    obtain ⟨ha, rfl⟩ := Array.getElem?_eq_some_iff.mp hc
    have q := List.all_eq_true.mp ((Array.all_eq_true_iff_forall_mem.mp hF) _ (Array.getElem_mem ha)) i (List.mem_range.mpr hi)
    simpa [Array.getElem?_eq_getElem hi] using q
  obtain ⟨hsets, hown0⟩ := atoms_of _ (rest_1_c_eq ▸ (show rest_1_c.before _ s = true from hrest))
  have hr0 := Cond.before_iff.mp hown0
  obtain ⟨i0, ei0⟩ := is_v g2
  obtain rfl : w0 = (.int i0) := Option.some.inj ei0
  obtain ⟨g1001, g1002⟩ := and_e hn
  obtain ⟨g1003, g1004⟩ := and_e g1002
  obtain ⟨g1005, g1006⟩ := and_e g1004
  obtain ⟨g1007, g1008⟩ := and_e g1006
  obtain ⟨g1009, g1010⟩ := and_e g1008
  obtain ⟨g1011, g1012⟩ := and_e g1010
  obtain ⟨g1013, g1014⟩ := and_e g1012
  obtain ⟨g1015, g1016⟩ := and_e g1014
  obtain ⟨g1017, g1018⟩ := and_e g1016
  obtain ⟨g1019, g1020⟩ := and_e g1018
  obtain ⟨g1021, g1022⟩ := and_e g1020
  obtain ⟨g1023, g1024⟩ := and_e g1022
  obtain ⟨g1025, g1026⟩ := and_e g1024
  obtain ⟨g1027, g1028⟩ := and_e g1026
  obtain ⟨g1029, g1030⟩ := and_e g1028
  obtain ⟨g1031, g1032⟩ := and_e g1030
  obtain ⟨g1033, g1034⟩ := and_e g1032
  obtain ⟨g1035, g1036⟩ := and_e g1034
  obtain ⟨g1037, g1038⟩ := and_e g1036
  obtain ⟨g1039, g1040⟩ := and_e g1038
  obtain ⟨g1041, g1042⟩ := and_e g1040
  obtain ⟨g1043, g1044⟩ := and_e g1042
  obtain ⟨g1045, g1046⟩ := and_e g1044
  obtain ⟨g1047, g1048⟩ := and_e g1046
  obtain ⟨g1049, g1050⟩ := and_e g1048
  obtain ⟨g1051, g1052⟩ := and_e g1050
  obtain ⟨g1053, g1054⟩ := and_e g1052
  obtain ⟨g1055, g1056⟩ := and_e g1054
  obtain ⟨g1057, g1058⟩ := and_e g1056
  obtain ⟨g1059, g1060⟩ := and_e g1058
  obtain ⟨g1061, g1062⟩ := and_e g1060
  obtain ⟨g1063, g1064⟩ := and_e g1062
  obtain ⟨g1065, g1066⟩ := and_e g1064
  obtain ⟨g1067, g1068⟩ := and_e g1066
  obtain ⟨g1069, g1070⟩ := and_e g1068
  obtain ⟨g1071, g1072⟩ := and_e g1070
  obtain ⟨g1073, g1074⟩ := and_e g1072
  obtain ⟨g1075, g1076⟩ := and_e g1074
  obtain ⟨g1077, g1078⟩ := and_e g1076
  obtain ⟨g1079, g1080⟩ := and_e g1078
  obtain ⟨g1081, g1082⟩ := and_e g1080
  obtain ⟨g1083, g1084⟩ := and_e g1082
  obtain ⟨g1085, g1086⟩ := and_e g1084
  obtain ⟨g1087, g1088⟩ := and_e g1086
  obtain ⟨g1089, g1090⟩ := and_e g1088
  obtain ⟨g1091, g1092⟩ := and_e g1090
  obtain ⟨g1093, g1094⟩ := and_e g1092
  obtain ⟨g1095, g1096⟩ := and_e g1094
  obtain ⟨g1097, g1098⟩ := and_e g1096
  obtain ⟨g1099, g1100⟩ := and_e g1098
  obtain ⟨g1101, g1102⟩ := and_e g1100
  obtain ⟨g1103, g1104⟩ := and_e g1102
  obtain ⟨g1105, g1106⟩ := and_e g1104
  obtain ⟨g1107, g1108⟩ := and_e g1106
  obtain ⟨g1109, g1110⟩ := and_e g1108
  obtain ⟨a_w0, ev_w0⟩ := exa_v g1001
  have E_w0 : Exa s s.heap a_w0 "com/example/outlay/outlay/nacha/TransactionCode" := Exa.start ev_w0 g1001
  have S_w0 : Sta s s.heap "com/example/outlay/outlay/nacha/TransactionCode" "CHECKING_CREDIT_RETURN" "Lcom/example/outlay/outlay/nacha/TransactionCode;" (.ref a_w0) := Sta.start ev_w0 (Or.inr ⟨(hw _ (List.mem_of_getElem? (i := 5) rfl)), (hw _ (List.mem_of_getElem? (i := 6) rfl))⟩)
  obtain ⟨a_w0_code, ev_w0_code⟩ := exa_v g1003
  have E_w0_code : Exa s s.heap a_w0_code "java/lang/String" := Exa.start ev_w0_code g1003
  have F_w0_code : Fld s s.heap a_w0 "com/example/outlay/outlay/nacha/TransactionCode" "code" "Ljava/lang/String;" (.ref a_w0_code) := Fld.start ((fld_at ev_w0).symm.trans ev_w0_code)
  have F_w0_code_coder : Fld s s.heap a_w0_code "java/lang/String" "coder" "B" (.int (0 : Int32)) := Fld.start ((fld_at ev_w0_code).symm.trans (own_eqI g1005))
  obtain ⟨a_w0_code_value, ev_w0_code_value⟩ := arr_v g1007
  obtain ⟨c_w0_code_value, A_w0_code_value⟩ := Arr.start ev_w0_code_value g1007
  have F_w0_code_value : Fld s s.heap a_w0_code "java/lang/String" "value" "[B" (.ref a_w0_code_value) := Fld.start ((fld_at ev_w0_code).symm.trans ev_w0_code_value)
  have len_w0_code_value := own_eqI g1009
  have el_w0_code_value_1 := elem_in (own_eqI g1011) ev_w0_code_value (Term.int_eval (1)) A_w0_code_value.1
  obtain ⟨a_w3, ev_w3⟩ := exa_v g1013
  have E_w3 : Exa s s.heap a_w3 "com/example/outlay/outlay/nacha/TransactionCode" := Exa.start ev_w3 g1013
  have S_w3 : Sta s s.heap "com/example/outlay/outlay/nacha/TransactionCode" "CHECKING_DEBIT" "Lcom/example/outlay/outlay/nacha/TransactionCode;" (.ref a_w3) := Sta.start ev_w3 (Or.inr ⟨(hw _ (List.mem_of_getElem? (i := 5) rfl)), (hw _ (List.mem_of_getElem? (i := 46) rfl))⟩)
  obtain ⟨a_w3_code, ev_w3_code⟩ := exa_v g1015
  have E_w3_code : Exa s s.heap a_w3_code "java/lang/String" := Exa.start ev_w3_code g1015
  have F_w3_code : Fld s s.heap a_w3 "com/example/outlay/outlay/nacha/TransactionCode" "code" "Ljava/lang/String;" (.ref a_w3_code) := Fld.start ((fld_at ev_w3).symm.trans ev_w3_code)
  have F_w3_code_coder : Fld s s.heap a_w3_code "java/lang/String" "coder" "B" (.int (0 : Int32)) := Fld.start ((fld_at ev_w3_code).symm.trans (own_eqI g1017))
  obtain ⟨a_w3_code_value, ev_w3_code_value⟩ := arr_v g1019
  obtain ⟨c_w3_code_value, A_w3_code_value⟩ := Arr.start ev_w3_code_value g1019
  have F_w3_code_value : Fld s s.heap a_w3_code "java/lang/String" "value" "[B" (.ref a_w3_code_value) := Fld.start ((fld_at ev_w3_code).symm.trans ev_w3_code_value)
  have len_w3_code_value := own_eqI g1021
  have el_w3_code_value_1 := elem_in (own_eqI g1023) ev_w3_code_value (Term.int_eval (1)) A_w3_code_value.1
  obtain ⟨a_w6, ev_w6⟩ := exa_v g1025
  have E_w6 : Exa s s.heap a_w6 "com/example/outlay/outlay/nacha/TransactionCode" := Exa.start ev_w6 g1025
  have S_w6 : Sta s s.heap "com/example/outlay/outlay/nacha/TransactionCode" "SAVINGS_DEBIT_RETURN" "Lcom/example/outlay/outlay/nacha/TransactionCode;" (.ref a_w6) := Sta.start ev_w6 (Or.inr ⟨(hw _ (List.mem_of_getElem? (i := 5) rfl)), (hw _ (List.mem_of_getElem? (i := 48) rfl))⟩)
  obtain ⟨a_w6_code, ev_w6_code⟩ := exa_v g1027
  have E_w6_code : Exa s s.heap a_w6_code "java/lang/String" := Exa.start ev_w6_code g1027
  have F_w6_code : Fld s s.heap a_w6 "com/example/outlay/outlay/nacha/TransactionCode" "code" "Ljava/lang/String;" (.ref a_w6_code) := Fld.start ((fld_at ev_w6).symm.trans ev_w6_code)
  have F_w6_code_coder : Fld s s.heap a_w6_code "java/lang/String" "coder" "B" (.int (0 : Int32)) := Fld.start ((fld_at ev_w6_code).symm.trans (own_eqI g1029))
  obtain ⟨a_w6_code_value, ev_w6_code_value⟩ := arr_v g1031
  obtain ⟨c_w6_code_value, A_w6_code_value⟩ := Arr.start ev_w6_code_value g1031
  have F_w6_code_value : Fld s s.heap a_w6_code "java/lang/String" "value" "[B" (.ref a_w6_code_value) := Fld.start ((fld_at ev_w6_code).symm.trans ev_w6_code_value)
  have len_w6_code_value := own_eqI g1033
  have el_w6_code_value_1 := elem_in (own_eqI g1035) ev_w6_code_value (Term.int_eval (1)) A_w6_code_value.1
  obtain ⟨a_w7, ev_w7⟩ := exa_v g1037
  have E_w7 : Exa s s.heap a_w7 "com/example/outlay/outlay/nacha/TransactionCode" := Exa.start ev_w7 g1037
  have S_w7 : Sta s s.heap "com/example/outlay/outlay/nacha/TransactionCode" "SAVINGS_DEBIT" "Lcom/example/outlay/outlay/nacha/TransactionCode;" (.ref a_w7) := Sta.start ev_w7 (Or.inr ⟨(hw _ (List.mem_of_getElem? (i := 5) rfl)), (hw _ (List.mem_of_getElem? (i := 50) rfl))⟩)
  obtain ⟨a_w7_code, ev_w7_code⟩ := exa_v g1039
  have E_w7_code : Exa s s.heap a_w7_code "java/lang/String" := Exa.start ev_w7_code g1039
  have F_w7_code : Fld s s.heap a_w7 "com/example/outlay/outlay/nacha/TransactionCode" "code" "Ljava/lang/String;" (.ref a_w7_code) := Fld.start ((fld_at ev_w7).symm.trans ev_w7_code)
  have F_w7_code_coder : Fld s s.heap a_w7_code "java/lang/String" "coder" "B" (.int (0 : Int32)) := Fld.start ((fld_at ev_w7_code).symm.trans (own_eqI g1041))
  obtain ⟨a_w7_code_value, ev_w7_code_value⟩ := arr_v g1043
  obtain ⟨c_w7_code_value, A_w7_code_value⟩ := Arr.start ev_w7_code_value g1043
  have F_w7_code_value : Fld s s.heap a_w7_code "java/lang/String" "value" "[B" (.ref a_w7_code_value) := Fld.start ((fld_at ev_w7_code).symm.trans ev_w7_code_value)
  have len_w7_code_value := own_eqI g1045
  have el_w7_code_value_1 := elem_in (own_eqI g1047) ev_w7_code_value (Term.int_eval (1)) A_w7_code_value.1
  obtain ⟨a_w2, ev_w2⟩ := exa_v g1049
  have E_w2 : Exa s s.heap a_w2 "com/example/outlay/outlay/nacha/TransactionCode" := Exa.start ev_w2 g1049
  have S_w2 : Sta s s.heap "com/example/outlay/outlay/nacha/TransactionCode" "CHECKING_DEBIT_RETURN" "Lcom/example/outlay/outlay/nacha/TransactionCode;" (.ref a_w2) := Sta.start ev_w2 (Or.inr ⟨(hw _ (List.mem_of_getElem? (i := 5) rfl)), (hw _ (List.mem_of_getElem? (i := 52) rfl))⟩)
  obtain ⟨a_w2_code, ev_w2_code⟩ := exa_v g1051
  have E_w2_code : Exa s s.heap a_w2_code "java/lang/String" := Exa.start ev_w2_code g1051
  have F_w2_code : Fld s s.heap a_w2 "com/example/outlay/outlay/nacha/TransactionCode" "code" "Ljava/lang/String;" (.ref a_w2_code) := Fld.start ((fld_at ev_w2).symm.trans ev_w2_code)
  have F_w2_code_coder : Fld s s.heap a_w2_code "java/lang/String" "coder" "B" (.int (0 : Int32)) := Fld.start ((fld_at ev_w2_code).symm.trans (own_eqI g1053))
  obtain ⟨a_w2_code_value, ev_w2_code_value⟩ := arr_v g1055
  obtain ⟨c_w2_code_value, A_w2_code_value⟩ := Arr.start ev_w2_code_value g1055
  have F_w2_code_value : Fld s s.heap a_w2_code "java/lang/String" "value" "[B" (.ref a_w2_code_value) := Fld.start ((fld_at ev_w2_code).symm.trans ev_w2_code_value)
  have len_w2_code_value := own_eqI g1057
  have el_w2_code_value_1 := elem_in (own_eqI g1059) ev_w2_code_value (Term.int_eval (1)) A_w2_code_value.1
  obtain ⟨a_w1, ev_w1⟩ := exa_v g1061
  have E_w1 : Exa s s.heap a_w1 "com/example/outlay/outlay/nacha/TransactionCode" := Exa.start ev_w1 g1061
  have S_w1 : Sta s s.heap "com/example/outlay/outlay/nacha/TransactionCode" "CHECKING_CREDIT" "Lcom/example/outlay/outlay/nacha/TransactionCode;" (.ref a_w1) := Sta.start ev_w1 (Or.inr ⟨(hw _ (List.mem_of_getElem? (i := 5) rfl)), (hw _ (List.mem_of_getElem? (i := 54) rfl))⟩)
  obtain ⟨a_w1_code, ev_w1_code⟩ := exa_v g1063
  have E_w1_code : Exa s s.heap a_w1_code "java/lang/String" := Exa.start ev_w1_code g1063
  have F_w1_code : Fld s s.heap a_w1 "com/example/outlay/outlay/nacha/TransactionCode" "code" "Ljava/lang/String;" (.ref a_w1_code) := Fld.start ((fld_at ev_w1).symm.trans ev_w1_code)
  have F_w1_code_coder : Fld s s.heap a_w1_code "java/lang/String" "coder" "B" (.int (0 : Int32)) := Fld.start ((fld_at ev_w1_code).symm.trans (own_eqI g1065))
  obtain ⟨a_w1_code_value, ev_w1_code_value⟩ := arr_v g1067
  obtain ⟨c_w1_code_value, A_w1_code_value⟩ := Arr.start ev_w1_code_value g1067
  have F_w1_code_value : Fld s s.heap a_w1_code "java/lang/String" "value" "[B" (.ref a_w1_code_value) := Fld.start ((fld_at ev_w1_code).symm.trans ev_w1_code_value)
  have len_w1_code_value := own_eqI g1069
  have el_w1_code_value_1 := elem_in (own_eqI g1071) ev_w1_code_value (Term.int_eval (1)) A_w1_code_value.1
  obtain ⟨a_w4, ev_w4⟩ := exa_v g1073
  have E_w4 : Exa s s.heap a_w4 "com/example/outlay/outlay/nacha/TransactionCode" := Exa.start ev_w4 g1073
  have S_w4 : Sta s s.heap "com/example/outlay/outlay/nacha/TransactionCode" "SAVINGS_CREDIT_RETURN" "Lcom/example/outlay/outlay/nacha/TransactionCode;" (.ref a_w4) := Sta.start ev_w4 (Or.inr ⟨(hw _ (List.mem_of_getElem? (i := 5) rfl)), (hw _ (List.mem_of_getElem? (i := 56) rfl))⟩)
  obtain ⟨a_w4_code, ev_w4_code⟩ := exa_v g1075
  have E_w4_code : Exa s s.heap a_w4_code "java/lang/String" := Exa.start ev_w4_code g1075
  have F_w4_code : Fld s s.heap a_w4 "com/example/outlay/outlay/nacha/TransactionCode" "code" "Ljava/lang/String;" (.ref a_w4_code) := Fld.start ((fld_at ev_w4).symm.trans ev_w4_code)
  have F_w4_code_coder : Fld s s.heap a_w4_code "java/lang/String" "coder" "B" (.int (0 : Int32)) := Fld.start ((fld_at ev_w4_code).symm.trans (own_eqI g1077))
  obtain ⟨a_w4_code_value, ev_w4_code_value⟩ := arr_v g1079
  obtain ⟨c_w4_code_value, A_w4_code_value⟩ := Arr.start ev_w4_code_value g1079
  have F_w4_code_value : Fld s s.heap a_w4_code "java/lang/String" "value" "[B" (.ref a_w4_code_value) := Fld.start ((fld_at ev_w4_code).symm.trans ev_w4_code_value)
  have len_w4_code_value := own_eqI g1081
  have el_w4_code_value_1 := elem_in (own_eqI g1083) ev_w4_code_value (Term.int_eval (1)) A_w4_code_value.1
  obtain ⟨a_w5, ev_w5⟩ := exa_v g1085
  have E_w5 : Exa s s.heap a_w5 "com/example/outlay/outlay/nacha/TransactionCode" := Exa.start ev_w5 g1085
  have S_w5 : Sta s s.heap "com/example/outlay/outlay/nacha/TransactionCode" "SAVINGS_CREDIT" "Lcom/example/outlay/outlay/nacha/TransactionCode;" (.ref a_w5) := Sta.start ev_w5 (Or.inr ⟨(hw _ (List.mem_of_getElem? (i := 5) rfl)), (hw _ (List.mem_of_getElem? (i := 58) rfl))⟩)
  obtain ⟨a_w5_code, ev_w5_code⟩ := exa_v g1087
  have E_w5_code : Exa s s.heap a_w5_code "java/lang/String" := Exa.start ev_w5_code g1087
  have F_w5_code : Fld s s.heap a_w5 "com/example/outlay/outlay/nacha/TransactionCode" "code" "Ljava/lang/String;" (.ref a_w5_code) := Fld.start ((fld_at ev_w5).symm.trans ev_w5_code)
  have F_w5_code_coder : Fld s s.heap a_w5_code "java/lang/String" "coder" "B" (.int (0 : Int32)) := Fld.start ((fld_at ev_w5_code).symm.trans (own_eqI g1089))
  obtain ⟨a_w5_code_value, ev_w5_code_value⟩ := arr_v g1091
  obtain ⟨c_w5_code_value, A_w5_code_value⟩ := Arr.start ev_w5_code_value g1091
  have F_w5_code_value : Fld s s.heap a_w5_code "java/lang/String" "value" "[B" (.ref a_w5_code_value) := Fld.start ((fld_at ev_w5_code).symm.trans ev_w5_code_value)
  have len_w5_code_value := own_eqI g1093
  have el_w5_code_value_1 := elem_in (own_eqI g1095) ev_w5_code_value (Term.int_eval (1)) A_w5_code_value.1
  have el_w0_code_value_0 := elem_in (own_eqI g1097) ev_w0_code_value (Term.int_eval (0)) A_w0_code_value.1
  have el_w3_code_value_0 := elem_in (own_eqI g1099) ev_w3_code_value (Term.int_eval (0)) A_w3_code_value.1
  have el_w6_code_value_0 := elem_in (own_eqI g1101) ev_w6_code_value (Term.int_eval (0)) A_w6_code_value.1
  have el_w7_code_value_0 := elem_in (own_eqI g1103) ev_w7_code_value (Term.int_eval (0)) A_w7_code_value.1
  have el_w2_code_value_0 := elem_in (own_eqI g1105) ev_w2_code_value (Term.int_eval (0)) A_w2_code_value.1
  have el_w1_code_value_0 := elem_in (own_eqI g1107) ev_w1_code_value (Term.int_eval (0)) A_w1_code_value.1
  have el_w4_code_value_0 := elem_in (own_eqI g1109) ev_w4_code_value (Term.int_eval (0)) A_w4_code_value.1
  have el_w5_code_value_0 := elem_in (own_eqI g1110) ev_w5_code_value (Term.int_eval (0)) A_w5_code_value.1
  obtain ⟨cs, ev_cs⟩ := is_v (Cond.before_iff.mp (hsets _ (List.mem_of_getElem? (i := 1) rfl)))
  have S_c : Sta s s.heap "java/lang/String" "COMPACT_STRINGS" "Z" (.int cs) := Sta.start ev_cs (Or.inl (hsets _ (List.mem_of_getElem? (i := 0) rfl)))
  have hcs : ¬ cs = 0 := fun q => by
    have u := not_v (Cond.before_iff.mp (hsets _ (List.mem_of_getElem? (i := 2) rfl)))
    rw [q] at ev_cs
    exact own_neq0 u ev_cs
  obtain ⟨fw, ev_fw, hv_fw⟩ := isR_v (Cond.before_iff.mp (hsets _ (List.mem_of_getElem? (i := 8) rfl)))
  have S_f : Sta s s.heap "jdk/internal/util/Preconditions" "SIOOBE_FORMATTER" "Ljava/util/function/BiFunction;" fw := Sta.start ev_fw (Or.inl (hsets _ (List.mem_of_getElem? (i := 7) rfl)))
  have H0 : TC s s.heap a_w0 49 := ⟨E_w0, _, _, _, F_w0_code, E_w0_code, F_w0_code_coder, F_w0_code_value, own_af hfit A_w0_code_value (own_lenz len_w0_code_value ev_w0_code_value A_w0_code_value rfl), by show (c_w0_code_value.slots[1]?).getD .null = _; rw [show c_w0_code_value.slots[1]? = _ from el_w0_code_value_1.2]; rfl⟩
  have H1 : TC s s.heap a_w1 50 := ⟨E_w1, _, _, _, F_w1_code, E_w1_code, F_w1_code_coder, F_w1_code_value, own_af hfit A_w1_code_value (own_lenz len_w1_code_value ev_w1_code_value A_w1_code_value rfl), by show (c_w1_code_value.slots[1]?).getD .null = _; rw [show c_w1_code_value.slots[1]? = _ from el_w1_code_value_1.2]; rfl⟩
  have H2 : TC s s.heap a_w2 54 := ⟨E_w2, _, _, _, F_w2_code, E_w2_code, F_w2_code_coder, F_w2_code_value, own_af hfit A_w2_code_value (own_lenz len_w2_code_value ev_w2_code_value A_w2_code_value rfl), by show (c_w2_code_value.slots[1]?).getD .null = _; rw [show c_w2_code_value.slots[1]? = _ from el_w2_code_value_1.2]; rfl⟩
  have H3 : TC s s.heap a_w3 55 := ⟨E_w3, _, _, _, F_w3_code, E_w3_code, F_w3_code_coder, F_w3_code_value, own_af hfit A_w3_code_value (own_lenz len_w3_code_value ev_w3_code_value A_w3_code_value rfl), by show (c_w3_code_value.slots[1]?).getD .null = _; rw [show c_w3_code_value.slots[1]? = _ from el_w3_code_value_1.2]; rfl⟩
  have H4 : TC s s.heap a_w4 49 := ⟨E_w4, _, _, _, F_w4_code, E_w4_code, F_w4_code_coder, F_w4_code_value, own_af hfit A_w4_code_value (own_lenz len_w4_code_value ev_w4_code_value A_w4_code_value rfl), by show (c_w4_code_value.slots[1]?).getD .null = _; rw [show c_w4_code_value.slots[1]? = _ from el_w4_code_value_1.2]; rfl⟩
  have H5 : TC s s.heap a_w5 50 := ⟨E_w5, _, _, _, F_w5_code, E_w5_code, F_w5_code_coder, F_w5_code_value, own_af hfit A_w5_code_value (own_lenz len_w5_code_value ev_w5_code_value A_w5_code_value rfl), by show (c_w5_code_value.slots[1]?).getD .null = _; rw [show c_w5_code_value.slots[1]? = _ from el_w5_code_value_1.2]; rfl⟩
  have H6 : TC s s.heap a_w6 54 := ⟨E_w6, _, _, _, F_w6_code, E_w6_code, F_w6_code_coder, F_w6_code_value, own_af hfit A_w6_code_value (own_lenz len_w6_code_value ev_w6_code_value A_w6_code_value rfl), by show (c_w6_code_value.slots[1]?).getD .null = _; rw [show c_w6_code_value.slots[1]? = _ from el_w6_code_value_1.2]; rfl⟩
  have H7 : TC s s.heap a_w7 55 := ⟨E_w7, _, _, _, F_w7_code, E_w7_code, F_w7_code_coder, F_w7_code_value, own_af hfit A_w7_code_value (own_lenz len_w7_code_value ev_w7_code_value A_w7_code_value rfl), by show (c_w7_code_value.slots[1]?).getD .null = _; rw [show c_w7_code_value.slots[1]? = _ from el_w7_code_value_1.2]; rfl⟩
  obtain ⟨n, o, h1, h2, h3, _, L, rfl, ⟨rfl, N⟩, hq⟩ := rm0 l s _ hw tables_1 i0 a_w0 a_w1 a_w2 a_w3 a_w4 a_w5 a_w6 a_w7 cs fw s.heap s.heap.size (Nat.le_refl _) S_w0 S_w1 S_w2 S_w3 S_w4 S_w5 S_w6 S_w7 H0 H1 H2 H3 H4 H5 H6 H7 S_c hcs S_f hv_fw p e ha hc hk s m _ below hf ((Spec.applies_iff_loose hf).mp happ).1 ⟨rfl, State.Warmed39.refl s, rfl⟩ trivial
  refine ⟨n, _, h1, h2, h3, hpost _ _ _ _ _ _ ⟨Cond.after_iff.mpr rfl, Cond.after_iff.mpr (eq_i res_at (Term.int_eval (1)) rfl), trivial⟩ ⟨hq.1, hq.2.1, (hq.2.2.sift fun y hy => Or.inr (N y hy)).mono (by decide) (by decide)⟩⟩
theorem main_1_1 : Claimed_1_1 := comes_1 fun _ _ _ _ _ _ h hF => ⟨h.1, hF⟩
theorem main_1_2 : Claimed_1_2 := comes_1 fun _ _ _ _ _ _ h hF => ⟨h.2.1, hF⟩
end Jvm.Pilot.@@N@@
namespace Jvm.Pilot.@@N@@
open Jvm Jvm.ClassFile Sem Op Lib Jvm.Free Jvm.Stand Jvm.Pilot.@@N@@.Jvm.D
/-! MADE BY PROGRAM (witnessworld.py) out of the Statement's table words and the real class files: 18 classes; the members and pool entries that the words name. The judged class is class 1, her method 3. -/
namespace start1
open Jvm.ClassFile
def u (s : String) : CpInfo := .utf8 (stringToUtf16 s)
/-- a pool by its gaps: so many unusable entries, then the entry; so many at the end -/
def gap : Nat → List CpInfo → List CpInfo
  | 0, r => r
  | n + 1, r => .unusable :: gap n r
def poolList (es : List (Nat × CpInfo)) (last : Nat) : List CpInfo := es.foldr (fun e r => gap e.1 (e.2 :: r)) (gap last [])
def pool (es : List (Nat × CpInfo)) (last : Nat) : Array CpInfo := ⟨poolList es last⟩
def fileOf (pool : Array CpInfo) (this : Nat) (attrs : Array Attribute := #[]) (ms : Array MethodInfo := #[]) (fl : Nat := 33) (sup : Nat := 0) (ifs : Array Nat := #[]) (fds : Array FieldInfo := #[]) : ClassFile where
  minorVersion := 0
  majorVersion := 65
  constantPool := pool
  accessFlags := fl
  thisClass := this
  superClass := sup
  interfaces := ifs
  fields := fds
  methods := ms
  attributes := attrs
def plain (name : String) (sup : Option ClassId) : Class where
  name := name
  kind := .ordinary
  loader := none
  accessFlags := 33
  super := sup
  interfaces := #[]
  cf := none
  fields := #[]
  methods := #[]
  instanceTypes := #[]
  staticTypes := #[]
  resolved := #[]
  callSites := []
  init := .initialized
  statics := none
  mirror := none

def pool0 : Array CpInfo := pool [(5, u "<init>"), (0, u "()V"), (1, .class_ 10), (1, u "java/lang/Object")] 113

def k0m0 : Method := { name := "<init>", desc := "()V", sig := { parameters := [], returnType := none }, accessFlags := 1, code := none }
/-- java/lang/Object -/
def k0 : Class := { plain "java/lang/Object" none with
  accessFlags := 33
  interfaces := #[]
  cf := some (fileOf pool0 8 #[] #[{ accessFlags := 1, nameIndex := 5, descriptorIndex := 6, attributes := #[] }] 33 0 #[] #[])
  fields := #[]
  methods := #[k0m0]
  instanceTypes := #[]
  staticTypes := #[]
  resolved := Array.replicate 124 none
  statics := none }

def pool1 : Array CpInfo := pool [(2, .class_ 4), (1, u "java/lang/Object"), (0, u "<init>"), (0, u "()V"), (0, .fieldref 8 9), (0, .class_ 10), (0, .nameAndType 11 12), (0, u "com/example/outlay/outlay/nacha/TransactionCode"), (0, u "CHECKING_CREDIT_RETURN"), (0, u "Lcom/example/outlay/outlay/nacha/TransactionCode;"), (0, .fieldref 8 14), (0, .nameAndType 15 12), (0, u "CHECKING_CREDIT"), (0, .fieldref 8 17), (0, .nameAndType 18 12), (0, u "CHECKING_DEBIT_RETURN"), (0, .fieldref 8 20), (0, .nameAndType 21 12), (0, u "CHECKING_DEBIT"), (0, .fieldref 8 23), (0, .nameAndType 24 12), (0, u "SAVINGS_CREDIT_RETURN"), (0, .fieldref 8 26), (0, .nameAndType 27 12), (0, u "SAVINGS_CREDIT"), (0, .fieldref 8 29), (0, .nameAndType 30 12), (0, u "SAVINGS_DEBIT_RETURN"), (0, .fieldref 8 32), (0, .nameAndType 33 12), (0, u "SAVINGS_DEBIT"), (0, .methodref 35 36), (0, .class_ 37), (0, .nameAndType 38 39), (0, u "com/example/outlay/outlay/nacha/TransactionCodeIsReturnPinLaw"), (0, u "pick"), (0, u "(I)Lcom/example/outlay/outlay/nacha/TransactionCode;"), (0, .methodref 35 41), (0, .nameAndType 42 43), (0, u "expectedReturn"), (0, u "(I)Z"), (0, .methodref 8 45), (0, .nameAndType 46 47), (0, u "isReturn"), (0, u "()Z"), (3, u "law")] 2

def k1m0 : Method := { name := "<init>", desc := "()V", sig := { parameters := [], returnType := none }, accessFlags := 1, code := none }
def k1c1 : Code := { maxStack := 2, maxLocals := 1, code := method_2_code, exceptionTable := #[], attributes := #[] }
def k1m1 : Method := { name := "pick", desc := "(I)Lcom/example/outlay/outlay/nacha/TransactionCode;", sig := { parameters := [.int], returnType := some (.object "com/example/outlay/outlay/nacha/TransactionCode") }, accessFlags := 10, code := some k1c1 }
def k1c2 : Code := { maxStack := 2, maxLocals := 1, code := method_3_code, exceptionTable := #[], attributes := #[] }
def k1m2 : Method := { name := "expectedReturn", desc := "(I)Z", sig := { parameters := [.int], returnType := some .boolean }, accessFlags := 10, code := some k1c2 }
def k1c3 : Code := { maxStack := 2, maxLocals := 4, code := code, exceptionTable := #[], attributes := #[] }
def k1m3 : Method := { name := "law", desc := "(I)Z", sig := { parameters := [.int], returnType := some .boolean }, accessFlags := 9, code := some k1c3 }
/-- com/example/outlay/outlay/nacha/TransactionCodeIsReturnPinLaw -/
def k1 : Class := { plain "com/example/outlay/outlay/nacha/TransactionCodeIsReturnPinLaw" (some 0) with
  accessFlags := 49
  interfaces := #[]
  cf := some (fileOf pool1 35 #[] #[{ accessFlags := 1, nameIndex := 5, descriptorIndex := 6, attributes := #[] }, { accessFlags := 10, nameIndex := 38, descriptorIndex := 39, attributes := #[] }, { accessFlags := 10, nameIndex := 42, descriptorIndex := 43, attributes := #[] }, { accessFlags := 9, nameIndex := 51, descriptorIndex := 43, attributes := #[] }] 49 2 #[] #[])
  fields := #[]
  methods := #[k1m0, k1m1, k1m2, k1m3]
  instanceTypes := #[]
  staticTypes := #[]
  resolved := Array.replicate 54 none
  statics := none }

def pool2 : Array CpInfo := pool [(1, .class_ 2), (0, u "java/lang/constant/Constable"), (0, .class_ 4), (0, u "java/lang/Object")] 6

/-- java/lang/constant/Constable -/
def k2 : Class := { plain "java/lang/constant/Constable" (some 0) with
  accessFlags := 1537
  interfaces := #[]
  cf := some (fileOf pool2 1 #[] #[] 1537 3 #[] #[])
  fields := #[]
  methods := #[]
  instanceTypes := #[]
  staticTypes := #[]
  resolved := Array.replicate 11 none
  statics := none }

def pool3 : Array CpInfo := pool [(1, .class_ 2), (0, u "java/lang/Comparable"), (0, .class_ 4), (0, u "java/lang/Object")] 7

/-- java/lang/Comparable -/
def k3 : Class := { plain "java/lang/Comparable" (some 0) with
  accessFlags := 1537
  interfaces := #[]
  cf := some (fileOf pool3 1 #[] #[] 1537 3 #[] #[])
  fields := #[]
  methods := #[]
  instanceTypes := #[]
  staticTypes := #[]
  resolved := Array.replicate 12 none
  statics := none }

def pool4 : Array CpInfo := pool [(1, .class_ 2), (0, u "java/io/Serializable"), (0, .class_ 4), (0, u "java/lang/Object")] 2

/-- java/io/Serializable -/
def k4 : Class := { plain "java/io/Serializable" (some 0) with
  accessFlags := 1537
  interfaces := #[]
  cf := some (fileOf pool4 1 #[] #[] 1537 3 #[] #[])
  fields := #[]
  methods := #[]
  instanceTypes := #[]
  staticTypes := #[]
  resolved := Array.replicate 7 none
  statics := none }

def pool5 : Array CpInfo := pool [(2, .class_ 4), (1, u "java/lang/Enum"), (0, u "name"), (0, u "Ljava/lang/String;"), (2, u "ordinal"), (0, u "I"), (1, .class_ 14), (1, u "java/lang/Object"), (4, u "hash"), (86, .class_ 108), (1, u "java/lang/Enum$EnumDesc"), (2, .class_ 112), (0, u "java/lang/constant/Constable"), (0, .class_ 114), (0, u "java/lang/Comparable"), (0, .class_ 116), (0, u "java/io/Serializable")] 87

/-- java/lang/Enum -/
def k5 : Class := { plain "java/lang/Enum" (some 0) with
  accessFlags := 1057
  interfaces := #[2, 3, 4]
  cf := some (fileOf pool5 2 #[.nestMembers #[106]] #[] 1057 12 #[111, 113, 115] #[{ accessFlags := 18, nameIndex := 5, descriptorIndex := 6, attributes := #[] }, { accessFlags := 18, nameIndex := 9, descriptorIndex := 10, attributes := #[] }, { accessFlags := 2, nameIndex := 19, descriptorIndex := 10, attributes := #[] }])
  fields := #[{ name := "name", type := (.object "java/lang/String"), accessFlags := 18, slot := 0, constantValue := 0 }, { name := "ordinal", type := .int, accessFlags := 18, slot := 1, constantValue := 0 }, { name := "hash", type := .int, accessFlags := 2, slot := 2, constantValue := 0 }]
  methods := #[]
  instanceTypes := #[(.object "java/lang/String"), .int, .int]
  staticTypes := #[]
  resolved := Array.replicate 204 none
  statics := none }

def pool6 : Array CpInfo := pool [(1, .class_ 2), (0, u "com/example/outlay/outlay/nacha/TransactionCode"), (2, u "CHECKING_CREDIT_RETURN"), (0, u "Lcom/example/outlay/outlay/nacha/TransactionCode;"), (2, u "CHECKING_CREDIT"), (2, u "CHECKING_DEBIT_RETURN"), (2, u "CHECKING_DEBIT"), (2, u "SAVINGS_CREDIT_RETURN"), (2, u "SAVINGS_CREDIT"), (2, u "SAVINGS_DEBIT_RETURN"), (2, u "SAVINGS_DEBIT"), (2, u "$VALUES"), (0, u "[Lcom/example/outlay/outlay/nacha/TransactionCode;"), (6, .class_ 40), (1, u "java/lang/Enum"), (6, .fieldref 1 48), (0, .nameAndType 49 50), (0, u "code"), (0, u "Ljava/lang/String;"), (0, .methodref 52 53), (0, .class_ 54), (0, .nameAndType 55 56), (0, u "java/lang/String"), (0, u "charAt"), (0, u "(I)C"), (2, u "ALL"), (2, u "isReturn"), (0, u "()Z")] 65

def k6c0 : Code := { maxStack := 2, maxLocals := 1, code := prog_40_method_6_code, exceptionTable := #[], attributes := #[] }
def k6m0 : Method := { name := "isReturn", desc := "()Z", sig := { parameters := [], returnType := some .boolean }, accessFlags := 1, code := some k6c0 }
/-- com/example/outlay/outlay/nacha/TransactionCode -/
def k6 : Class := { plain "com/example/outlay/outlay/nacha/TransactionCode" (some 5) with
  accessFlags := 16433
  interfaces := #[]
  cf := some (fileOf pool6 1 #[] #[{ accessFlags := 1, nameIndex := 62, descriptorIndex := 63, attributes := #[] }] 16433 38 #[] #[{ accessFlags := 16409, nameIndex := 5, descriptorIndex := 6, attributes := #[] }, { accessFlags := 16409, nameIndex := 9, descriptorIndex := 6, attributes := #[] }, { accessFlags := 16409, nameIndex := 12, descriptorIndex := 6, attributes := #[] }, { accessFlags := 16409, nameIndex := 15, descriptorIndex := 6, attributes := #[] }, { accessFlags := 16409, nameIndex := 18, descriptorIndex := 6, attributes := #[] }, { accessFlags := 16409, nameIndex := 21, descriptorIndex := 6, attributes := #[] }, { accessFlags := 16409, nameIndex := 24, descriptorIndex := 6, attributes := #[] }, { accessFlags := 16409, nameIndex := 27, descriptorIndex := 6, attributes := #[] }, { accessFlags := 26, nameIndex := 59, descriptorIndex := 31, attributes := #[] }, { accessFlags := 18, nameIndex := 49, descriptorIndex := 50, attributes := #[] }, { accessFlags := 4122, nameIndex := 30, descriptorIndex := 31, attributes := #[] }])
  fields := #[{ name := "CHECKING_CREDIT_RETURN", type := (.object "com/example/outlay/outlay/nacha/TransactionCode"), accessFlags := 16409, slot := 0, constantValue := 0 }, { name := "CHECKING_CREDIT", type := (.object "com/example/outlay/outlay/nacha/TransactionCode"), accessFlags := 16409, slot := 1, constantValue := 0 }, { name := "CHECKING_DEBIT_RETURN", type := (.object "com/example/outlay/outlay/nacha/TransactionCode"), accessFlags := 16409, slot := 2, constantValue := 0 }, { name := "CHECKING_DEBIT", type := (.object "com/example/outlay/outlay/nacha/TransactionCode"), accessFlags := 16409, slot := 3, constantValue := 0 }, { name := "SAVINGS_CREDIT_RETURN", type := (.object "com/example/outlay/outlay/nacha/TransactionCode"), accessFlags := 16409, slot := 4, constantValue := 0 }, { name := "SAVINGS_CREDIT", type := (.object "com/example/outlay/outlay/nacha/TransactionCode"), accessFlags := 16409, slot := 5, constantValue := 0 }, { name := "SAVINGS_DEBIT_RETURN", type := (.object "com/example/outlay/outlay/nacha/TransactionCode"), accessFlags := 16409, slot := 6, constantValue := 0 }, { name := "SAVINGS_DEBIT", type := (.object "com/example/outlay/outlay/nacha/TransactionCode"), accessFlags := 16409, slot := 7, constantValue := 0 }, { name := "ALL", type := (.array (.object "com/example/outlay/outlay/nacha/TransactionCode")), accessFlags := 26, slot := 8, constantValue := 0 }, { name := "code", type := (.object "java/lang/String"), accessFlags := 18, slot := 3, constantValue := 0 }, { name := "$VALUES", type := (.array (.object "com/example/outlay/outlay/nacha/TransactionCode")), accessFlags := 4122, slot := 9, constantValue := 0 }]
  methods := #[k6m0]
  instanceTypes := #[(.object "java/lang/String"), .int, .int, (.object "java/lang/String")]
  staticTypes := #[(.object "com/example/outlay/outlay/nacha/TransactionCode"), (.object "com/example/outlay/outlay/nacha/TransactionCode"), (.object "com/example/outlay/outlay/nacha/TransactionCode"), (.object "com/example/outlay/outlay/nacha/TransactionCode"), (.object "com/example/outlay/outlay/nacha/TransactionCode"), (.object "com/example/outlay/outlay/nacha/TransactionCode"), (.object "com/example/outlay/outlay/nacha/TransactionCode"), (.object "com/example/outlay/outlay/nacha/TransactionCode"), (.array (.object "com/example/outlay/outlay/nacha/TransactionCode")), (.array (.object "com/example/outlay/outlay/nacha/TransactionCode"))]
  resolved := Array.replicate 129 none
  statics := some 0 }

def pool7 : Array CpInfo := pool [(2, .class_ 4), (1, u "java/lang/CharSequence"), (42, .class_ 48), (0, u "java/lang/CharSequence$1CodePointIterator"), (10, .class_ 60), (0, u "java/lang/CharSequence$1CharIterator"), (5, .class_ 67), (0, u "java/lang/Object")] 63

/-- java/lang/CharSequence -/
def k7 : Class := { plain "java/lang/CharSequence" (some 0) with
  accessFlags := 1537
  interfaces := #[]
  cf := some (fileOf pool7 2 #[.nestMembers #[47, 59]] #[] 1537 66 #[] #[])
  fields := #[]
  methods := #[]
  instanceTypes := #[]
  staticTypes := #[]
  resolved := Array.replicate 131 none
  statics := none }

def pool8 : Array CpInfo := pool [(1, .class_ 2), (0, u "java/lang/constant/ConstantDesc"), (0, .class_ 4), (0, u "java/lang/Object")] 32

/-- java/lang/constant/ConstantDesc -/
def k8 : Class := { plain "java/lang/constant/ConstantDesc" (some 0) with
  accessFlags := 1537
  interfaces := #[]
  cf := some (fileOf pool8 1 #[] #[] 1537 3 #[] #[])
  fields := #[]
  methods := #[]
  instanceTypes := #[]
  staticTypes := #[]
  resolved := Array.replicate 37 none
  statics := none }

def pool9 : Array CpInfo := pool [(2, .class_ 4), (1, u "java/lang/Object"), (0, u "<init>"), (0, u "()V"), (2, .fieldref 10 11), (0, .class_ 12), (0, .nameAndType 13 14), (0, u "java/lang/String"), (0, u "value"), (0, u "[B"), (0, .fieldref 10 16), (0, .nameAndType 17 18), (0, u "coder"), (0, u "B"), (2, u "hash"), (0, u "I"), (2, u "hashIsZero"), (0, u "Z"), (11, .fieldref 10 39), (0, .nameAndType 40 26), (0, u "COMPACT_STRINGS"), (66, .class_ 109), (1, u "java/lang/StringLatin1"), (32, u "()Z"), (220, u "([BI)C"), (27, u "(II)V"), (35, u "(I)C"), (64, .methodref 10 493), (0, .nameAndType 494 142), (0, u "isLatin1"), (0, .methodref 107 496), (0, .nameAndType 497 363), (0, u "charAt"), (3, u "checkIndex"), (73, .class_ 576), (0, u "java/lang/CharSequence"), (22, u "CASE_INSENSITIVE_ORDER"), (0, u "Ljava/util/Comparator;"), (452, .fieldref 1054 1055), (0, .class_ 1056), (0, .nameAndType 1057 1058), (0, u "jdk/internal/util/Preconditions"), (0, u "SIOOBE_FORMATTER"), (0, u "Ljava/util/function/BiFunction;"), (0, .methodref 1054 1060), (0, .nameAndType 501 1061), (0, u "(IILjava/util/function/BiFunction;)I"), (39, u "serialPersistentFields"), (0, u "[Ljava/io/ObjectStreamField;"), (0, .class_ 1104), (0, u "java/lang/String$CaseInsensitiveComparator"), (1, .class_ 1107), (0, u "java/io/Serializable"), (0, .class_ 1109), (0, u "java/lang/Comparable"), (0, .class_ 1111), (0, u "java/lang/constant/Constable"), (0, .class_ 1113), (0, u "java/lang/constant/ConstantDesc"), (2, u "serialVersionUID"), (0, u "J"), (3, u "REPL"), (0, u "C"), (2, u "LATIN1"), (1, u "UTF16")] 323

def k9m0 : Method := { name := "<init>", desc := "()V", sig := { parameters := [], returnType := none }, accessFlags := 1, code := none }
def k9c1 : Code := { maxStack := 2, maxLocals := 2, code := jdk_42_method_56_code, exceptionTable := #[], attributes := #[] }
def k9m1 : Method := { name := "charAt", desc := "(I)C", sig := { parameters := [.int], returnType := some .char }, accessFlags := 1, code := some k9c1 }
def k9c2 : Code := { maxStack := 1, maxLocals := 1, code := jdk_42_method_154_code, exceptionTable := #[], attributes := #[] }
def k9m2 : Method := { name := "isLatin1", desc := "()Z", sig := { parameters := [], returnType := some .boolean }, accessFlags := 0, code := some k9c2 }
def k9c3 : Code := { maxStack := 3, maxLocals := 2, code := jdk_42_method_155_code, exceptionTable := #[], attributes := #[] }
def k9m3 : Method := { name := "checkIndex", desc := "(II)V", sig := { parameters := [.int, .int], returnType := none }, accessFlags := 8, code := some k9c3 }
/-- java/lang/String -/
def k9 : Class := { plain "java/lang/String" (some 0) with
  accessFlags := 49
  interfaces := #[4, 3, 7, 2, 8]
  cf := some (fileOf pool9 10 #[.nestMembers #[1103]] #[{ accessFlags := 1, nameIndex := 5, descriptorIndex := 6, attributes := #[] }, { accessFlags := 1, nameIndex := 497, descriptorIndex := 427, attributes := #[] }, { accessFlags := 0, nameIndex := 494, descriptorIndex := 142, attributes := #[] }, { accessFlags := 8, nameIndex := 501, descriptorIndex := 391, attributes := #[] }] 49 2 #[1106, 1108, 575, 1110, 1112] #[{ accessFlags := 18, nameIndex := 13, descriptorIndex := 14, attributes := #[] }, { accessFlags := 18, nameIndex := 17, descriptorIndex := 18, attributes := #[] }, { accessFlags := 2, nameIndex := 21, descriptorIndex := 22, attributes := #[] }, { accessFlags := 2, nameIndex := 25, descriptorIndex := 26, attributes := #[] }, { accessFlags := 26, nameIndex := 1116, descriptorIndex := 1117, attributes := #[] }, { accessFlags := 24, nameIndex := 40, descriptorIndex := 26, attributes := #[] }, { accessFlags := 26, nameIndex := 1101, descriptorIndex := 1102, attributes := #[] }, { accessFlags := 26, nameIndex := 1121, descriptorIndex := 1122, attributes := #[] }, { accessFlags := 25, nameIndex := 599, descriptorIndex := 600, attributes := #[] }, { accessFlags := 24, nameIndex := 1125, descriptorIndex := 18, attributes := #[] }, { accessFlags := 24, nameIndex := 1127, descriptorIndex := 18, attributes := #[] }])
  fields := #[{ name := "value", type := (.array .byte), accessFlags := 18, slot := 0, constantValue := 0 }, { name := "coder", type := .byte, accessFlags := 18, slot := 1, constantValue := 0 }, { name := "hash", type := .int, accessFlags := 2, slot := 2, constantValue := 0 }, { name := "hashIsZero", type := .boolean, accessFlags := 2, slot := 3, constantValue := 0 }, { name := "serialVersionUID", type := .long, accessFlags := 26, slot := 0, constantValue := 0 }, { name := "COMPACT_STRINGS", type := .boolean, accessFlags := 24, slot := 1, constantValue := 0 }, { name := "serialPersistentFields", type := (.array (.object "java/io/ObjectStreamField")), accessFlags := 26, slot := 2, constantValue := 0 }, { name := "REPL", type := .char, accessFlags := 26, slot := 3, constantValue := 0 }, { name := "CASE_INSENSITIVE_ORDER", type := (.object "java/util/Comparator"), accessFlags := 25, slot := 4, constantValue := 0 }, { name := "LATIN1", type := .byte, accessFlags := 24, slot := 5, constantValue := 0 }, { name := "UTF16", type := .byte, accessFlags := 24, slot := 6, constantValue := 0 }]
  methods := #[k9m0, k9m1, k9m2, k9m3]
  instanceTypes := #[(.array .byte), .byte, .int, .boolean]
  staticTypes := #[.long, .boolean, (.array (.object "java/io/ObjectStreamField")), .char, (.object "java/util/Comparator"), .byte, .byte]
  resolved := Array.replicate 1451 none
  statics := some 1 }

def pool10 : Array CpInfo := pool [(1, .class_ 2), (0, u "java/lang/String"), (1, .class_ 6), (1, u "java/lang/Object"), (0, u "<init>"), (0, u "()V"), (0, .methodref 1 10), (0, .nameAndType 11 12), (0, u "checkIndex"), (0, u "(II)V"), (1, .class_ 16), (1, u "java/lang/StringLatin1"), (36, u "([BI)C"), (67, u "$assertionsDisabled"), (0, u "Z"), (98, .class_ 223), (1, u "java/lang/StringLatin1$LinesSpliterator"), (28, u "charAt"), (137, .class_ 391), (0, u "java/lang/StringLatin1$CharsSpliterator")] 3

def k10m0 : Method := { name := "<init>", desc := "()V", sig := { parameters := [], returnType := none }, accessFlags := 0, code := none }
def k10c1 : Code := { maxStack := 2, maxLocals := 2, code := jdk_43_method_2_code, exceptionTable := #[], attributes := #[] }
def k10m1 : Method := { name := "charAt", desc := "([BI)C", sig := { parameters := [(.array .byte), .int], returnType := some .char }, accessFlags := 9, code := some k10c1 }
/-- java/lang/StringLatin1 -/
def k10 : Class := { plain "java/lang/StringLatin1" (some 0) with
  accessFlags := 48
  interfaces := #[]
  cf := some (fileOf pool10 14 #[.nestMembers #[390, 221]] #[{ accessFlags := 0, nameIndex := 7, descriptorIndex := 8, attributes := #[] }, { accessFlags := 9, nameIndex := 252, descriptorIndex := 53, attributes := #[] }] 48 4 #[] #[{ accessFlags := 4120, nameIndex := 121, descriptorIndex := 122, attributes := #[] }])
  fields := #[{ name := "$assertionsDisabled", type := .boolean, accessFlags := 4120, slot := 0, constantValue := 0 }]
  methods := #[k10m0, k10m1]
  instanceTypes := #[]
  staticTypes := #[.boolean]
  resolved := Array.replicate 395 none
  statics := none }

def pool11 : Array CpInfo := pool [(2, .class_ 4), (1, u "java/lang/Object"), (0, u "<init>"), (0, u "()V"), (17, .class_ 26), (1, u "jdk/internal/util/Preconditions"), (6, u "checkIndex"), (21, .class_ 56), (0, u "jdk/internal/util/Preconditions$4"), (57, .class_ 115), (0, u "jdk/internal/util/Preconditions$1"), (7, u "SIOOBE_FORMATTER"), (0, u "Ljava/util/function/BiFunction;"), (0, .class_ 126), (0, u "jdk/internal/util/Preconditions$2"), (3, u "AIOOBE_FORMATTER"), (0, .class_ 132), (0, u "jdk/internal/util/Preconditions$3"), (3, u "IOOBE_FORMATTER"), (41, u "(IILjava/util/function/BiFunction;)I")] 15

def k11m0 : Method := { name := "<init>", desc := "()V", sig := { parameters := [], returnType := none }, accessFlags := 1, code := none }
def k11c1 : Code := { maxStack := 3, maxLocals := 3, code := jdk_41_method_11_code, exceptionTable := #[], attributes := #[] }
def k11m1 : Method := { name := "checkIndex", desc := "(IILjava/util/function/BiFunction;)I", sig := { parameters := [.int, .int, (.object "java/util/function/BiFunction")], returnType := some .int }, accessFlags := 9, code := some k11c1 }
/-- jdk/internal/util/Preconditions -/
def k11 : Class := { plain "jdk/internal/util/Preconditions" (some 0) with
  accessFlags := 33
  interfaces := #[]
  cf := some (fileOf pool11 24 #[.nestMembers #[55, 131, 125, 114]] #[{ accessFlags := 1, nameIndex := 5, descriptorIndex := 6, attributes := #[] }, { accessFlags := 9, nameIndex := 33, descriptorIndex := 178, attributes := #[] }] 33 2 #[] #[{ accessFlags := 25, nameIndex := 123, descriptorIndex := 124, attributes := #[] }, { accessFlags := 25, nameIndex := 130, descriptorIndex := 124, attributes := #[] }, { accessFlags := 25, nameIndex := 136, descriptorIndex := 124, attributes := #[] }])
  fields := #[{ name := "SIOOBE_FORMATTER", type := (.object "java/util/function/BiFunction"), accessFlags := 25, slot := 0, constantValue := 0 }, { name := "AIOOBE_FORMATTER", type := (.object "java/util/function/BiFunction"), accessFlags := 25, slot := 1, constantValue := 0 }, { name := "IOOBE_FORMATTER", type := (.object "java/util/function/BiFunction"), accessFlags := 25, slot := 2, constantValue := 0 }]
  methods := #[k11m0, k11m1]
  instanceTypes := #[]
  staticTypes := #[(.object "java/util/function/BiFunction"), (.object "java/util/function/BiFunction"), (.object "java/util/function/BiFunction")]
  resolved := Array.replicate 194 none
  statics := some 2 }

def pool12 : Array CpInfo := pool [(9, u "<init>"), (6, .class_ 18), (1, u "java/lang/Object"), (0, u "()V"), (1, .class_ 23), (1, u "jdk/internal/util/ArraysSupport"), (0, u "LOG2_ARRAY_LONG_INDEX_SCALE"), (0, u "I"), (2, u "U"), (0, u "Ljdk/internal/misc/Unsafe;"), (8, u "BIG_ENDIAN"), (0, u "Z"), (8, u "LOG2_BYTE_BIT_SIZE"), (4, u "LOG2_ARRAY_INT_INDEX_SCALE"), (54, u "JLA"), (0, u "Ljdk/internal/access/JavaLangAccess;"), (11, u "LOG2_ARRAY_BOOLEAN_INDEX_SCALE"), (9, u "LOG2_ARRAY_BYTE_INDEX_SCALE"), (5, u "LOG2_ARRAY_CHAR_INDEX_SCALE"), (5, u "LOG2_ARRAY_SHORT_INDEX_SCALE"), (18, u "LOG2_ARRAY_FLOAT_INDEX_SCALE"), (24, u "LOG2_ARRAY_DOUBLE_INDEX_SCALE"), (89, u "T_BOOLEAN"), (2, u "T_CHAR"), (1, u "T_FLOAT"), (1, u "T_DOUBLE"), (1, u "T_BYTE"), (1, u "T_SHORT"), (1, u "T_INT"), (1, u "T_LONG"), (1, u "SOFT_MAX_ARRAY_LENGTH")] 83

def k12m0 : Method := { name := "<init>", desc := "()V", sig := { parameters := [], returnType := none }, accessFlags := 2, code := none }
/-- jdk/internal/util/ArraysSupport -/
def k12 : Class := { plain "jdk/internal/util/ArraysSupport" (some 0) with
  accessFlags := 33
  interfaces := #[]
  cf := some (fileOf pool12 21 #[] #[{ accessFlags := 2, nameIndex := 9, descriptorIndex := 19, attributes := #[] }] 33 16 #[] #[{ accessFlags := 24, nameIndex := 28, descriptorIndex := 29, attributes := #[] }, { accessFlags := 26, nameIndex := 38, descriptorIndex := 39, attributes := #[] }, { accessFlags := 25, nameIndex := 121, descriptorIndex := 25, attributes := #[] }, { accessFlags := 25, nameIndex := 131, descriptorIndex := 25, attributes := #[] }, { accessFlags := 25, nameIndex := 137, descriptorIndex := 25, attributes := #[] }, { accessFlags := 25, nameIndex := 143, descriptorIndex := 25, attributes := #[] }, { accessFlags := 25, nameIndex := 53, descriptorIndex := 25, attributes := #[] }, { accessFlags := 25, nameIndex := 24, descriptorIndex := 25, attributes := #[] }, { accessFlags := 25, nameIndex := 162, descriptorIndex := 25, attributes := #[] }, { accessFlags := 25, nameIndex := 187, descriptorIndex := 25, attributes := #[] }, { accessFlags := 26, nameIndex := 48, descriptorIndex := 25, attributes := #[] }, { accessFlags := 25, nameIndex := 277, descriptorIndex := 25, attributes := #[] }, { accessFlags := 25, nameIndex := 280, descriptorIndex := 25, attributes := #[] }, { accessFlags := 25, nameIndex := 282, descriptorIndex := 25, attributes := #[] }, { accessFlags := 25, nameIndex := 284, descriptorIndex := 25, attributes := #[] }, { accessFlags := 25, nameIndex := 286, descriptorIndex := 25, attributes := #[] }, { accessFlags := 25, nameIndex := 288, descriptorIndex := 25, attributes := #[] }, { accessFlags := 25, nameIndex := 290, descriptorIndex := 25, attributes := #[] }, { accessFlags := 25, nameIndex := 292, descriptorIndex := 25, attributes := #[] }, { accessFlags := 26, nameIndex := 108, descriptorIndex := 109, attributes := #[] }, { accessFlags := 25, nameIndex := 294, descriptorIndex := 25, attributes := #[] }])
  fields := #[{ name := "U", type := (.object "jdk/internal/misc/Unsafe"), accessFlags := 24, slot := 0, constantValue := 0 }, { name := "BIG_ENDIAN", type := .boolean, accessFlags := 26, slot := 1, constantValue := 0 }, { name := "LOG2_ARRAY_BOOLEAN_INDEX_SCALE", type := .int, accessFlags := 25, slot := 2, constantValue := 0 }, { name := "LOG2_ARRAY_BYTE_INDEX_SCALE", type := .int, accessFlags := 25, slot := 3, constantValue := 0 }, { name := "LOG2_ARRAY_CHAR_INDEX_SCALE", type := .int, accessFlags := 25, slot := 4, constantValue := 0 }, { name := "LOG2_ARRAY_SHORT_INDEX_SCALE", type := .int, accessFlags := 25, slot := 5, constantValue := 0 }, { name := "LOG2_ARRAY_INT_INDEX_SCALE", type := .int, accessFlags := 25, slot := 6, constantValue := 0 }, { name := "LOG2_ARRAY_LONG_INDEX_SCALE", type := .int, accessFlags := 25, slot := 7, constantValue := 0 }, { name := "LOG2_ARRAY_FLOAT_INDEX_SCALE", type := .int, accessFlags := 25, slot := 8, constantValue := 0 }, { name := "LOG2_ARRAY_DOUBLE_INDEX_SCALE", type := .int, accessFlags := 25, slot := 9, constantValue := 0 }, { name := "LOG2_BYTE_BIT_SIZE", type := .int, accessFlags := 26, slot := 10, constantValue := 0 }, { name := "T_BOOLEAN", type := .int, accessFlags := 25, slot := 11, constantValue := 0 }, { name := "T_CHAR", type := .int, accessFlags := 25, slot := 12, constantValue := 0 }, { name := "T_FLOAT", type := .int, accessFlags := 25, slot := 13, constantValue := 0 }, { name := "T_DOUBLE", type := .int, accessFlags := 25, slot := 14, constantValue := 0 }, { name := "T_BYTE", type := .int, accessFlags := 25, slot := 15, constantValue := 0 }, { name := "T_SHORT", type := .int, accessFlags := 25, slot := 16, constantValue := 0 }, { name := "T_INT", type := .int, accessFlags := 25, slot := 17, constantValue := 0 }, { name := "T_LONG", type := .int, accessFlags := 25, slot := 18, constantValue := 0 }, { name := "JLA", type := (.object "jdk/internal/access/JavaLangAccess"), accessFlags := 26, slot := 19, constantValue := 0 }, { name := "SOFT_MAX_ARRAY_LENGTH", type := .int, accessFlags := 25, slot := 20, constantValue := 0 }]
  methods := #[k12m0]
  instanceTypes := #[]
  staticTypes := #[(.object "jdk/internal/misc/Unsafe"), .boolean, .int, .int, .int, .int, .int, .int, .int, .int, .int, .int, .int, .int, .int, .int, .int, .int, .int, (.object "jdk/internal/access/JavaLangAccess"), .int]
  resolved := Array.replicate 378 none
  statics := none }

def pool13 : Array CpInfo := pool [(1, u "java/lang/Cloneable"), (0, .class_ 1), (0, u "java/lang/Object"), (0, .class_ 3)] 3

/-- java/lang/Cloneable -/
def k13 : Class := { plain "java/lang/Cloneable" (some 0) with
  accessFlags := 1537
  interfaces := #[]
  cf := some (fileOf pool13 2 #[] #[] 1537 4 #[] #[])
  fields := #[]
  methods := #[]
  instanceTypes := #[]
  staticTypes := #[]
  resolved := Array.replicate 8 none
  statics := none }

/-- the primitive byte -/
def k14 : Class := { plain "byte" none with kind := .primitive 'B', accessFlags := 0x411 }
/-- [B -/
def k15 : Class := { plain "[B" (some 0) with kind := .array 14 .byte, interfaces := #[13, 4], accessFlags := 1041 }

/-- the primitive int -/
def k16 : Class := { plain "int" none with kind := .primitive 'I', accessFlags := 0x411 }
/-- [I -/
def k17 : Class := { plain "[I" (some 0) with kind := .array 16 .int, interfaces := #[13, 4], accessFlags := 1041 }

def heap : Heap := #[{ cls := 6, slots := #[.ref 3, .ref 6, .ref 9, .ref 12, .ref 15, .ref 18, .ref 21, .ref 24, .null, .null], vm := .statics 6 },
  { cls := 9, slots := #[.long 0, .int 1, .null, .int 0, .null, .int 0, .int 0], vm := .statics 9 },
  { cls := 11, slots := #[.null, .null, .null], vm := .statics 11 },
  { cls := 6, slots := #[.null, .int 0, .int 0, .ref 4], vm := .none },
  { cls := 9, slots := #[.ref 5, .int 0, .int 0, .int 0], vm := .none },
  { cls := 15, slots := #[.int 50, .int 49], vm := .none },
  { cls := 6, slots := #[.null, .int 1, .int 0, .ref 7], vm := .none },
  { cls := 9, slots := #[.ref 8, .int 0, .int 0, .int 0], vm := .none },
  { cls := 15, slots := #[.int 50, .int 50], vm := .none },
  { cls := 6, slots := #[.null, .int 2, .int 0, .ref 10], vm := .none },
  { cls := 9, slots := #[.ref 11, .int 0, .int 0, .int 0], vm := .none },
  { cls := 15, slots := #[.int 50, .int 54], vm := .none },
  { cls := 6, slots := #[.null, .int 3, .int 0, .ref 13], vm := .none },
  { cls := 9, slots := #[.ref 14, .int 0, .int 0, .int 0], vm := .none },
  { cls := 15, slots := #[.int 50, .int 55], vm := .none },
  { cls := 6, slots := #[.null, .int 4, .int 0, .ref 16], vm := .none },
  { cls := 9, slots := #[.ref 17, .int 0, .int 0, .int 0], vm := .none },
  { cls := 15, slots := #[.int 51, .int 49], vm := .none },
  { cls := 6, slots := #[.null, .int 5, .int 0, .ref 19], vm := .none },
  { cls := 9, slots := #[.ref 20, .int 0, .int 0, .int 0], vm := .none },
  { cls := 15, slots := #[.int 51, .int 50], vm := .none },
  { cls := 6, slots := #[.null, .int 6, .int 0, .ref 22], vm := .none },
  { cls := 9, slots := #[.ref 23, .int 0, .int 0, .int 0], vm := .none },
  { cls := 15, slots := #[.int 51, .int 54], vm := .none },
  { cls := 6, slots := #[.null, .int 7, .int 0, .ref 25], vm := .none },
  { cls := 9, slots := #[.ref 26, .int 0, .int 0, .int 0], vm := .none },
  { cls := 15, slots := #[.int 51, .int 55], vm := .none }]
def classes : Array Class := #[k0, k1, k2, k3, k4, k5, k6, k7, k8, k9, k10, k11, k12, k13, k14, k15, k16, k17]
def interned : List (Array UInt16 × Addr) := []
def slotsUsed : Nat := 100
def theMethod : MethodId := ⟨1, 3⟩
def args0 : Array Value := #[.int 5]
def aboutOver (below : List Frame) : State where
  vm := { classes := classes, interned := interned.toArray }
  heap := heap
  slotsUsed := slotsUsed
  threads := #[{ frames := .invoking theMethod args0 :: below }]
def below0 : List Frame := [.native { method := ⟨0, 0⟩, args := #[] }]
def about1 : State := aboutOver below0
def p0 : Program := .bare "" "" ""
def e0 : Env := launch0.env 0 0 0
theorem w_frames : about1.frames = Frame.invoking theMethod args0 :: below0 := rfl
set_option maxRecDepth 65536 in
theorem w_args : argsFit about1.vm theMethod args0 = true := by decide +kernel
set_option maxRecDepth 65536 in
theorem w_heap : heapFits about1 = true := by decide +kernel
set_option maxRecDepth 65536 in
theorem w_runnable : about1.curStatus? = some .runnable := by decide +kernel
set_option maxRecDepth 65536 in
theorem w_alone : about1.alone = true := by decide +kernel
set_option maxRecDepth 65536 in
theorem w_named : about1.methodNamed? x = some theMethod := by decide +kernel
set_option maxRecDepth 65536 in
theorem w_hears : about1.hears theMethod below0 = true := by decide +kernel
set_option maxRecDepth 65536 in
theorem w_ripe : about1.ripe theMethod args0 below0 = true := by decide +kernel
theorem w_running : about1.status = .running := rfl
set_option maxRecDepth 65536 in
theorem w_room : about1.hasRoom e0.platform room_1 = true :=
  launch0.hasRoom_least _ room_1 (by decide +kernel) (by decide +kernel) (by decide +kernel) (by decide +kernel) (by decide +kernel) (by decide +kernel)
theorem allAtoms_all (ts : List Jvm.Cond) (a : Array Jvm.Value) (st : Jvm.State) : (allAtoms ts).before a st = ts.all (fun c => c.before a st) := by
  induction ts with
  | nil => rfl
  | cons c t ih =>
    show (Jvm.Cond.and c (allAtoms t)).before a st = _
    rw [Jvm.Cond.before_and, ih, List.all_cons]
def words1 : List Jvm.Cond := Jvm.Cond.code x code maxLocals ret :: tables_1
/-- a 'code' word, met by the world's own term for the bytes: nothing is compared byte by byte -/
theorem code_word {y : MethodName} {bytes : ByteArray} {mx : Nat} {rt : Option FieldType} {a : Array Value} {s : State} {m : MethodId} {meth : Method} {c : Code} (h1 : s.methodNamed? y = some m) (h2 : s.vm.method? m = some meth) (h3 : meth.code = some c) (h4 : c.code = bytes)
    (h5 : (c.maxLocals == mx && c.exceptionTable.isEmpty && decide (c.maxStack ≤ mostOperands) && decide (meth.sig.returnType = rt) && !meth.locks && decide (parseMethodDescriptor y.desc = some meth.sig)) = true) : (Jvm.Cond.code y bytes mx rt).before a s = true := by
  simp only [Bool.and_eq_true, beq_iff_eq, Bool.not_eq_true', decide_eq_true_eq] at h5
  obtain ⟨⟨⟨⟨⟨g1, g2⟩, g3⟩, g4⟩, g5⟩, g6⟩ := h5
  simp [Cond.before, Cond.holds, Cond.value, h1, h2, h3, h4, g1, g2, g3, g4, g5, g6]
def isCode : Jvm.Cond → Bool
  | .code _ _ _ _ => true
  | _ => false
theorem all_split {L : List Jvm.Cond} {P : Jvm.Cond → Bool} (h1 : L.all (fun c => isCode c || P c) = true) (h2 : ∀ c ∈ L.filter isCode, P c = true) : L.all P = true := by
  refine List.all_eq_true.mpr fun c hc => ?_
  have h := List.all_eq_true.mp h1 c hc
  rcases Bool.eq_false_or_eq_true (isCode c) with hi | hi
  · exact h2 c (List.mem_filter.mpr ⟨hc, hi⟩)
  · simpa [hi] using h
set_option maxRecDepth 65536 in
theorem w_c0 : (Jvm.Cond.code x code maxLocals ret).before args0 about1 = true := code_word (m := ⟨1, 3⟩) (meth := k1m3) (c := k1c3) (by decide +kernel) rfl rfl rfl (by decide +kernel)
set_option maxRecDepth 65536 in
theorem w_c1 : (Jvm.Cond.code ({ cls := "com/example/outlay/outlay/nacha/TransactionCodeIsReturnPinLaw", name := "pick", desc := "(I)Lcom/example/outlay/outlay/nacha/TransactionCode;" } : Jvm.MethodName) method_2_code (1 : Nat) (Option.some (Jvm.ClassFile.FieldType.object "com/example/outlay/outlay/nacha/TransactionCode"))).before args0 about1 = true := code_word (m := ⟨1, 1⟩) (meth := k1m1) (c := k1c1) (by decide +kernel) rfl rfl rfl (by decide +kernel)
set_option maxRecDepth 65536 in
theorem w_c2 : (Jvm.Cond.code ({ cls := "com/example/outlay/outlay/nacha/TransactionCodeIsReturnPinLaw", name := "expectedReturn", desc := "(I)Z" } : Jvm.MethodName) method_3_code (1 : Nat) (Option.some Jvm.ClassFile.FieldType.boolean)).before args0 about1 = true := code_word (m := ⟨1, 2⟩) (meth := k1m2) (c := k1c2) (by decide +kernel) rfl rfl rfl (by decide +kernel)
set_option maxRecDepth 65536 in
theorem w_c3 : (Jvm.Cond.code ({ cls := "com/example/outlay/outlay/nacha/TransactionCode", name := "isReturn", desc := "()Z" } : Jvm.MethodName) prog_40_method_6_code (1 : Nat) (Option.some Jvm.ClassFile.FieldType.boolean)).before args0 about1 = true := code_word (m := ⟨6, 0⟩) (meth := k6m0) (c := k6c0) (by decide +kernel) rfl rfl rfl (by decide +kernel)
set_option maxRecDepth 65536 in
theorem w_c4 : (Jvm.Cond.code ({ cls := "java/lang/String", name := "charAt", desc := "(I)C" } : Jvm.MethodName) jdk_42_method_56_code (2 : Nat) (Option.some Jvm.ClassFile.FieldType.char)).before args0 about1 = true := code_word (m := ⟨9, 1⟩) (meth := k9m1) (c := k9c1) (by decide +kernel) rfl rfl rfl (by decide +kernel)
set_option maxRecDepth 65536 in
theorem w_c5 : (Jvm.Cond.code ({ cls := "java/lang/String", name := "isLatin1", desc := "()Z" } : Jvm.MethodName) jdk_42_method_154_code (1 : Nat) (Option.some Jvm.ClassFile.FieldType.boolean)).before args0 about1 = true := code_word (m := ⟨9, 2⟩) (meth := k9m2) (c := k9c2) (by decide +kernel) rfl rfl rfl (by decide +kernel)
set_option maxRecDepth 65536 in
theorem w_c6 : (Jvm.Cond.code ({ cls := "java/lang/StringLatin1", name := "charAt", desc := "([BI)C" } : Jvm.MethodName) jdk_43_method_2_code (2 : Nat) (Option.some Jvm.ClassFile.FieldType.char)).before args0 about1 = true := code_word (m := ⟨10, 1⟩) (meth := k10m1) (c := k10c1) (by decide +kernel) rfl rfl rfl (by decide +kernel)
set_option maxRecDepth 65536 in
theorem w_c7 : (Jvm.Cond.code ({ cls := "java/lang/String", name := "checkIndex", desc := "(II)V" } : Jvm.MethodName) jdk_42_method_155_code (2 : Nat) (Option.none : Option Jvm.ClassFile.FieldType)).before args0 about1 = true := code_word (m := ⟨9, 3⟩) (meth := k9m3) (c := k9c3) (by decide +kernel) rfl rfl rfl (by decide +kernel)
set_option maxRecDepth 65536 in
theorem w_c8 : (Jvm.Cond.code ({ cls := "jdk/internal/util/Preconditions", name := "checkIndex", desc := "(IILjava/util/function/BiFunction;)I" } : Jvm.MethodName) jdk_41_method_11_code (3 : Nat) (Option.some Jvm.ClassFile.FieldType.int)).before args0 about1 = true := code_word (m := ⟨11, 1⟩) (meth := k11m1) (c := k11c1) (by decide +kernel) rfl rfl rfl (by decide +kernel)
def codes1 : List Jvm.Cond := [Jvm.Cond.code x code maxLocals ret, Jvm.Cond.code ({ cls := "com/example/outlay/outlay/nacha/TransactionCodeIsReturnPinLaw", name := "pick", desc := "(I)Lcom/example/outlay/outlay/nacha/TransactionCode;" } : Jvm.MethodName) method_2_code (1 : Nat) (Option.some (Jvm.ClassFile.FieldType.object "com/example/outlay/outlay/nacha/TransactionCode")), Jvm.Cond.code ({ cls := "com/example/outlay/outlay/nacha/TransactionCodeIsReturnPinLaw", name := "expectedReturn", desc := "(I)Z" } : Jvm.MethodName) method_3_code (1 : Nat) (Option.some Jvm.ClassFile.FieldType.boolean), Jvm.Cond.code ({ cls := "com/example/outlay/outlay/nacha/TransactionCode", name := "isReturn", desc := "()Z" } : Jvm.MethodName) prog_40_method_6_code (1 : Nat) (Option.some Jvm.ClassFile.FieldType.boolean), Jvm.Cond.code ({ cls := "java/lang/String", name := "charAt", desc := "(I)C" } : Jvm.MethodName) jdk_42_method_56_code (2 : Nat) (Option.some Jvm.ClassFile.FieldType.char), Jvm.Cond.code ({ cls := "java/lang/String", name := "isLatin1", desc := "()Z" } : Jvm.MethodName) jdk_42_method_154_code (1 : Nat) (Option.some Jvm.ClassFile.FieldType.boolean), Jvm.Cond.code ({ cls := "java/lang/StringLatin1", name := "charAt", desc := "([BI)C" } : Jvm.MethodName) jdk_43_method_2_code (2 : Nat) (Option.some Jvm.ClassFile.FieldType.char), Jvm.Cond.code ({ cls := "java/lang/String", name := "checkIndex", desc := "(II)V" } : Jvm.MethodName) jdk_42_method_155_code (2 : Nat) (Option.none : Option Jvm.ClassFile.FieldType), Jvm.Cond.code ({ cls := "jdk/internal/util/Preconditions", name := "checkIndex", desc := "(IILjava/util/function/BiFunction;)I" } : Jvm.MethodName) jdk_41_method_11_code (3 : Nat) (Option.some Jvm.ClassFile.FieldType.int)]
set_option maxRecDepth 65536 in
theorem codes_eq : words1.filter isCode = codes1 := rfl
theorem w_codes : ∀ c ∈ words1.filter isCode, c.before args0 about1 = true := by
  rw [codes_eq]
  intro c hc
  simp only [codes1, List.mem_cons, List.not_mem_nil, or_false] at hc
  rcases hc with rfl | rfl | rfl | rfl | rfl | rfl | rfl | rfl | rfl
  · exact w_c0
  · exact w_c1
  · exact w_c2
  · exact w_c3
  · exact w_c4
  · exact w_c5
  · exact w_c6
  · exact w_c7
  · exact w_c8
set_option maxRecDepth 65536 in
theorem w_t1 : (words1.take 24).all (fun c => isCode c || c.before args0 about1) = true := by decide +kernel
set_option maxRecDepth 65536 in
theorem w_t2 : ((words1.drop 24).take 24).all (fun c => isCode c || c.before args0 about1) = true := by decide +kernel
set_option maxRecDepth 65536 in
theorem w_t3 : ((words1.drop 24).drop 24).all (fun c => isCode c || c.before args0 about1) = true := by decide +kernel
theorem w_tables : (allAtoms (Jvm.Cond.code x code maxLocals ret :: tables_1)).before args0 about1 = true := by
  rw [allAtoms_all]
  show words1.all (fun c => c.before args0 about1) = true
  refine all_split ?_ w_codes
  rw [← List.take_append_drop 24 words1, List.all_append, w_t1, ← List.take_append_drop 24 (words1.drop 24), List.all_append, w_t2, w_t3]
  rfl
set_option maxRecDepth 65536 in
theorem w_rest : rest_1_c.before args0 about1 = true := by decide +kernel
set_option maxRecDepth 65536 in
theorem w_case : (Jvm.Cond.and given_1 narrow_1).before args0 about1 = true := by decide +kernel
theorem w_applies : (headSpec (Jvm.Cond.code x code maxLocals ret :: tables_1) room_1).applies x e0.platform about1 = true :=
  (Spec.applies_iff w_frames).mpr ⟨w_running, w_runnable, w_alone, w_named, w_hears, w_ripe, w_room, w_tables⟩
theorem atStart : AtStart classFile x code maxLocals ret World_1 tables_1 room_1 Calls_1 rest_1 Pre_1 launch0 p0 e0 about1 theMethod args0 below0 :=
  ⟨lists_1, trivial, launch0.admits_env _ _ _, launch0.least_env, fairChoices_fair.cas, fairChoices_fair.clock, w_frames, w_args, w_heap, w_applies, trivial, w_rest, w_case⟩
end start1
theorem witness_1 : WitnessClaimed_1 := ⟨start1.p0, start1.e0, start1.about1, start1.theMethod, start1.args0, start1.below0, start1.atStart⟩
end Jvm.Pilot.@@N@@
