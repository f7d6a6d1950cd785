import JvmDerived
import JvmDerived.Pilot.@@N@@Statement
import JvmDerived.Pilot.@@N@@Code
set_option linter.unusedVariables false
set_option linter.unusedSimpArgs false
namespace Jvm.Pilot.@@N@@
open Jvm Jvm.ClassFile Sem Op Lib Jvm.Free Jvm.Stand Jvm.LawKit Jvm.RoadKit Bundle Jvm.Pilot.@@N@@.Jvm.D
def Go (p : Program) (e : Env) (below : List Frame) (S : State) (P : State → Outcome → Prop) : Prop := ∃ t o, Steps p.tables e below S t ∧ P t o
abbrev Gm (p : Program) (e : Env) (below : List Frame) (T : State) (m : MethodId) (pc : Nat) (ls : Array Slot) (st : List Value) (P : State → Outcome → Prop) : Prop := Go p e below (T.setTop (mkF m pc ls st)) P
abbrev lv (x : Int64) : Slot := .val (.long x)
theorem own_in {p : Program} {e : Env} {below : List Frame} {T : State} {g g' : JFrame} {P : State → Outcome → Prop} (q : g = g') (h : Go p e below (T.setTop g') P) : ∃ s₂ o, Steps p.tables e below (T.setTop g) s₂ ∧ P s₂ o := q ▸ h
theorem own_go {p : Program} {e : Env} {below : List Frame} {S S' : State} {P : State → Outcome → Prop} (k : ∀ t, Steps p.tables e below S' t → Steps p.tables e below S t) (h : Go p e below S' P) : Go p e below S P := by
  obtain ⟨t, o, h1, h2⟩ := h
  exact ⟨t, o, k t h1, h2⟩
section Rets
variable {p : Program} {l : Launch} {e : Env} {R : Room} {s : State} {m : MethodId} {args : Array Value} {below : List Frame} {meth : Method} {c : Code} {T : State} {locs : List Loc} {cells slots : Nat}
theorem own_retI (X : Stand p l e R s m args below meth c T locs cells slots) (hx : p.tables.exec = Jvm.exec) (hlk : meth.locks = false) {pc : Nat} {Ls : Array Slot} {z : Int32} {t : FieldType} {Q : Option Value → Heap → List Loc → Prop} {C N : Nat} (hret : meth.sig.returnType = some t) (hn : narrow t (.int z) = .int z) (ht : t = .int ∨ t = .boolean ∨ t = .byte ∨ t = .char ∨ t = .short)
    (hd : decode c.code pc = .ok (.ireturn, 1)) {h : Heap} (eh : T.heap = h) (hq : Q (some (.int z)) h locs) (hC : cells ≤ C) (hN : slots ≤ N) : Go p e below (T.setTop (mkF m pc Ls [.int z])) (fun t o => t.status = .running ∧ Ended t below o ∧ ∃ v L, o = .returned v ∧ Q v t.heap L ∧ FrameEnd s o t L C N) := by
  subst eh
  obtain ⟨fs, hr, hrun, hended, hW, hsame⟩ := X.leave (v := some (.int z)) (fun h => by rw [hret] at h; cases h) hlk
  exact ⟨_, _, X.ireturnOut hx hret hn ht hd hr, hrun, hended, _, _, rfl, hq, ⟨_, rfl⟩, hW, hsame.mono hC hN⟩
theorem own_retL (X : Stand p l e R s m args below meth c T locs cells slots) (hx : p.tables.exec = Jvm.exec) (hlk : meth.locks = false) {pc : Nat} {Ls : Array Slot} {z : Int64} {Q : Option Value → Heap → List Loc → Prop} {C N : Nat} (hret : meth.sig.returnType = some .long)
    (hd : decode c.code pc = .ok (.lreturn, 1)) {h : Heap} (eh : T.heap = h) (hq : Q (some (.long z)) h locs) (hC : cells ≤ C) (hN : slots ≤ N) : Go p e below (T.setTop (mkF m pc Ls [.long z])) (fun t o => t.status = .running ∧ Ended t below o ∧ ∃ v L, o = .returned v ∧ Q v t.heap L ∧ FrameEnd s o t L C N) := by
  subst eh
  obtain ⟨fs, hr, hrun, hended, hW, hsame⟩ := X.leave (v := some (.long z)) (fun h => by rw [hret] at h; cases h) hlk
  exact ⟨_, _, X.lreturnOut hx hret hd hr, hrun, hended, _, _, rfl, hq, ⟨_, rfl⟩, hW, hsame.mono hC hN⟩
theorem own_retA (X : Stand p l e R s m args below meth c T locs cells slots) (hx : p.tables.exec = Jvm.exec) (hlk : meth.locks = false) {pc : Nat} {Ls : Array Slot} {w : Value} {t : FieldType} {Q : Option Value → Heap → List Loc → Prop} {C N : Nat} (hw : w.isRef = true) (hret : meth.sig.returnType = some t) (ht : t.isReference = true)
    (hd : decode c.code pc = .ok (.areturn, 1)) {h : Heap} (eh : T.heap = h) (hq : Q (some w) h locs) (hC : cells ≤ C) (hN : slots ≤ N) : Go p e below (T.setTop (mkF m pc Ls [w])) (fun t o => t.status = .running ∧ Ended t below o ∧ ∃ v L, o = .returned v ∧ Q v t.heap L ∧ FrameEnd s o t L C N) := by
  subst eh
  obtain ⟨fs, hr, hrun, hended, hW, hsame⟩ := X.leave (v := some w) (fun h => by rw [hret] at h; cases h) hlk
  exact ⟨_, _, X.areturnOut hx hw hret ht hd hr, hrun, hended, _, _, rfl, hq, ⟨_, rfl⟩, hW, hsame.mono hC hN⟩
theorem own_retV (X : Stand p l e R s m args below meth c T locs cells slots) (hx : p.tables.exec = Jvm.exec) (hlk : meth.locks = false) {pc : Nat} {Ls : Array Slot} {Q : Option Value → Heap → List Loc → Prop} {C N : Nat} (hret : meth.sig.returnType = none)
    (hd : decode c.code pc = .ok (.return_, 1)) {h : Heap} (eh : T.heap = h) (hq : Q none h locs) (hC : cells ≤ C) (hN : slots ≤ N) : Go p e below (T.setTop (mkF m pc Ls [])) (fun t o => t.status = .running ∧ Ended t below o ∧ ∃ v L, o = .returned v ∧ Q v t.heap L ∧ FrameEnd s o t L C N) := by
  subst eh
  obtain ⟨fs, hr, hrun, hended, hW, hsame⟩ := X.leave (v := none) (fun _ => rfl) hlk
  exact ⟨_, _, X.returnOut hx hret hd hr, hrun, hended, _, _, rfl, hq, ⟨_, rfl⟩, hW, hsame.mono hC hN⟩
end Rets
theorem own_eqI {args : Array Value} {first s : State} {o : Option Outcome} {idx : List Nat} {a : Term} {k : Int32} (h : (Jvm.Cond.eq a (.int k)).value args first o s idx = some true) : a.eval args first o idx s = some (.int k) := by
  cases ha : a.eval args first o idx s with
  | none => simp [Cond.value, ha, Term.eval] at h
  | some v => cases v <;> simp [Cond.value, ha, Term.eval] at h <;> first | (subst h; rfl) | (rw [h])

def Af (Z : State) (h : Heap) (a : Addr) (ty : FieldType) (n : Nat) (f : Nat → Value) : Prop := n < 2 ^ 31 ∧ ∃ c : Cell, Arr Z h a c ty ∧ c.slots.size = n ∧ ∀ i, i < n → c.slots[i]? = some (f i) ∧ fits ty (f i) = true
section AfS
variable {Z : State} {h h' : Heap} {a b : Addr} {ty : FieldType} {n : Nat} {f : Nat → Value} {v : Value} {sl : Nat} {ws : List Addr}
theorem Af.lt (A : Af Z h a ty n f) : a < h.size := by obtain ⟨-, c, A, -⟩ := A; exact A.lt
theorem Af.ext (A : Af Z h a ty n f) (E : Ext h h') : Af Z h' a ty n f := by obtain ⟨q, c, A, r⟩ := A; exact ⟨q, c, A.ext E, r⟩
theorem Af.other (A : Af Z h b ty n f) (W : Wr h h' a sl v) (q : b ≠ a) : Af Z h' b ty n f := by obtain ⟨q', c, A, r⟩ := A; exact ⟨q', c, A.other W q, r⟩
theorem Af.keep (A : Af Z h a ty n f) (K : Keep h h' ws) (q : a ∉ ws) : Af Z h' a ty n f := by obtain ⟨q', c, A, r⟩ := A; exact ⟨q', c, ⟨K.2.1 a c A.1 q, A.2⟩, r⟩
theorem Af.congr (A : Af Z h a ty n f) {g : Nat → Value} (q : ∀ i, i < n → g i = f i) : Af Z h a ty n g := by obtain ⟨q', c, A, r1, r2⟩ := A; exact ⟨q', c, A, r1, fun i hi => by rw [q i hi]; exact r2 i hi⟩
theorem Af.set (A : Af Z h a ty n f) (W : Wr h h' a sl v) (hv : fits ty v = true) : Af Z h' a ty n (fun i => if i = sl then v else f i) := by
  obtain ⟨q, c, A, r1, r2⟩ := A
  refine ⟨q, c.setSlot sl v, A.same W, by rw [sz_set]; exact r1, fun i hi => ?_⟩
  by_cases e : i = sl
  · subst e
    show _ = some (if i = i then v else f i) ∧ fits ty (if i = i then v else f i) = true
    rw [if_pos rfl]
    refine ⟨?_, hv⟩
    show (c.slots.setIfInBounds i v)[i]? = _
    rw [Array.getElem?_setIfInBounds_self_of_lt (by omega)]
  · show _ = some (if i = sl then v else f i) ∧ fits ty (if i = sl then v else f i) = true
    rw [if_neg e]
    refine ⟨?_, (r2 i hi).2⟩
    show (c.slots.setIfInBounds sl v)[i]? = _
    rw [Array.getElem?_setIfInBounds_ne (Ne.symm e)]
    exact (r2 i hi).1
theorem Af.new {k : ClassId} {z : Int32} (A : Arr Z h a (newA k ty z) ty) (q : ¬ z < 0) {n : Nat} (hn : z.toNatClampNeg = n) (hd : fits ty (defaultValue ty) = true) : Af Z h a ty n (fun _ => defaultValue ty) := by
  subst hn
  refine ⟨(back32 q).2, _, A, sz_new _ _ _, fun i hi => ⟨?_, hd⟩⟩
  simp [newA, hi]
theorem Af.arv (A : Af Z h a ty n f) (dv : Value) : ∃ k, Arv Z h a k ty n.toInt32 ((List.range n).map f) dv := by
  obtain ⟨q, c, A, r1, r2⟩ := A
  have hz : n.toInt32.toNatClampNeg = n := by
    show n.toInt32.toInt.toNat = n
    rw [len_toInt q]; rfl
  have hg : ∀ i, i < n → ((List.range n).map f).getD i dv = f i := fun i hi => by
    rw [List.getD_eq_getElem?_getD]; simp [hi]
  refine ⟨_, c, A, rfl, by rw [hz]; exact r1, ?_, fun i hi => ?_, fun i hi => ?_⟩
  · rw [Int32.lt_iff_toInt_lt, len_toInt q]; simp
  · rw [hg i (r1 ▸ hi)]; exact (r2 i (r1 ▸ hi)).1
  · rw [hg i (r1 ▸ hi)]; exact (r2 i (r1 ▸ hi)).2
theorem Af.ofArv {k : ClassId} {z : Int32} {vs : List Value} {dv : Value} (F : Arv Z h a k ty z vs dv) (hz : z.toNatClampNeg = n) (hf : ∀ i, i < n → f i = vs.getD i dv) : Af Z h a ty n f := by
  obtain ⟨c, A, -, S, q, H, G⟩ := F
  subst hz
  refine ⟨(back32 q).2, c, A, S, fun i hi => ?_⟩
  rw [hf i hi]
  exact ⟨H i (S ▸ hi), G i (S ▸ hi)⟩
theorem nat32 {n : Nat} (q : n < 2 ^ 31) : n.toInt32.toNatClampNeg = n := by
  show n.toInt32.toInt.toNat = n
  rw [len_toInt q]; rfl
theorem nn32 {n : Nat} (q : n < 2 ^ 31) : ¬ n.toInt32 < 0 := by rw [Int32.lt_iff_toInt_lt, len_toInt q]; simp
end AfS
section AfX
variable {p : Program} {l : Launch} {e : Env} {R : Room} {s : State} {m : MethodId} {args : Array Value} {below : List Frame} {meth : Method} {c : Code} {T : State} {locs : List Loc} {cells slots : Nat} {Z : State} {a0 : Array Value} {h : Heap} {a : Addr} {ty : FieldType} {n : Nat} {f : Nat → Value}
theorem own_len (X : Stand p l e R s m args below meth c T locs cells slots) (hx : p.tables.exec = Jvm.exec) (hZ : Z.Warmed39 s.vm) (eT : T.heap = h) (A : Af Z h a ty n f) {z : Int32} (hz : n.toInt32 = z) {g : JFrame} (hg : g.method = m) {rest : List Value} (hs : g.stack = .ref a :: rest) (hd : decode c.code g.pc = .ok (.arraylength, 1)) {target : State}
    (hr : Steps p.tables e below (T.setTop { g with pc := g.pc + 1, stack := .int z :: rest }) target) : Steps p.tables e below (T.setTop g) target := by
  obtain ⟨q, cl, A, r1, r2⟩ := A
  refine X.arraylength hx (by rw [eT]; exact A.1) (State.isArrayOf_alike hZ.alike A.2.1) hg hs hd _ ?_
  rw [r1, hz]; exact hr
theorem own_inb {cl : Cell} {j : Int32} {k : Nat} (r : cl.slots.size = n) (hj : ¬ j < 0) (hk : j.toNatClampNeg = k) (hkn : k < n) : ¬ (j < 0 ∨ cl.slots.size ≤ j.toNatClampNeg) := by
  rw [r, hk]; rintro (q | q)
  · exact hj q
  · omega
theorem own_ldI (X : Stand p l e R s m args below meth c T locs cells slots) (hx : p.tables.exec = Jvm.exec) (hZ : Z.Warmed39 s.vm) (eT : T.heap = h) (A : Af Z h a .int n f) {j : Int32} {k : Nat} (hj : ¬ j < 0) (hk : j.toNatClampNeg = k) (hkn : k < n) {w : Value} (hv : f k = w) {g : JFrame} (hg : g.method = m) {rest : List Value} (hs : g.stack = .int j :: .ref a :: rest) (hd : decode c.code g.pc = .ok (.iaload, 1)) {target : State}
    (hr : Steps p.tables e below (T.setTop { g with pc := g.pc + 1, stack := w :: rest }) target) : Steps p.tables e below (T.setTop g) target := by
  obtain ⟨q, cl, A, r1, r2⟩ := A
  exact X.iaload hx (by rw [eT]; exact A.1) (State.isArrayOf_alike hZ.alike A.2.1) A.2.2 (own_inb r1 hj hk hkn) (by rw [hk, (r2 k hkn).1, hv]) hg hs hd _ hr
theorem own_ldJ (X : Stand p l e R s m args below meth c T locs cells slots) (hx : p.tables.exec = Jvm.exec) (hZ : Z.Warmed39 s.vm) (eT : T.heap = h) (A : Af Z h a .long n f) {j : Int32} {k : Nat} (hj : ¬ j < 0) (hk : j.toNatClampNeg = k) (hkn : k < n) {w : Value} (hv : f k = w) {g : JFrame} (hg : g.method = m) {rest : List Value} (hs : g.stack = .int j :: .ref a :: rest) (hd : decode c.code g.pc = .ok (.laload, 1)) {target : State}
    (hr : Steps p.tables e below (T.setTop { g with pc := g.pc + 1, stack := w :: rest }) target) : Steps p.tables e below (T.setTop g) target := by
  obtain ⟨q, cl, A, r1, r2⟩ := A
  exact X.laload hx (by rw [eT]; exact A.1) (State.isArrayOf_alike hZ.alike A.2.1) A.2.2 (own_inb r1 hj hk hkn) (by rw [hk, (r2 k hkn).1, hv]) hg hs hd _ hr
theorem own_ldB (X : Stand p l e R s m args below meth c T locs cells slots) (hx : p.tables.exec = Jvm.exec) (hZ : Z.Warmed39 s.vm) (eT : T.heap = h) (A : Af Z h a .byte n f) {j : Int32} {k : Nat} (hj : ¬ j < 0) (hk : j.toNatClampNeg = k) (hkn : k < n) {w : Value} (hv : f k = w) {g : JFrame} (hg : g.method = m) {rest : List Value} (hs : g.stack = .int j :: .ref a :: rest) (hd : decode c.code g.pc = .ok (.baload, 1)) {target : State}
    (hr : Steps p.tables e below (T.setTop { g with pc := g.pc + 1, stack := w :: rest }) target) : Steps p.tables e below (T.setTop g) target := by
  obtain ⟨q, cl, A, r1, r2⟩ := A
  exact X.baloadBytes hx (by rw [eT]; exact A.1) (State.isArrayOf_alike hZ.alike A.2.1) A.2.2 (own_inb r1 hj hk hkn) (by rw [hk, (r2 k hkn).1, hv]) hg hs hd _ hr
theorem own_ldZ (X : Stand p l e R s m args below meth c T locs cells slots) (hx : p.tables.exec = Jvm.exec) (hZ : Z.Warmed39 s.vm) (eT : T.heap = h) (A : Af Z h a .boolean n f) {j : Int32} {k : Nat} (hj : ¬ j < 0) (hk : j.toNatClampNeg = k) (hkn : k < n) {w : Value} (hv : f k = w) {g : JFrame} (hg : g.method = m) {rest : List Value} (hs : g.stack = .int j :: .ref a :: rest) (hd : decode c.code g.pc = .ok (.baload, 1)) {target : State}
    (hr : Steps p.tables e below (T.setTop { g with pc := g.pc + 1, stack := w :: rest }) target) : Steps p.tables e below (T.setTop g) target := by
  obtain ⟨q, cl, A, r1, r2⟩ := A
  exact X.baloadBooleans hx (by rw [eT]; exact A.1) (State.isArrayOf_alike hZ.alike A.2.1) A.2.2 (own_inb r1 hj hk hkn) (by rw [hk, (r2 k hkn).1, hv]) hg hs hd _ hr
theorem own_stI (X : Stand p l e R s m args below meth c T locs cells slots) (hx : p.tables.exec = Jvm.exec) (hZ : Z.Warmed39 s.vm) (eT : T.heap = h) (A : Af Z h a .int n f) {j x : Int32} {k : Nat} (hj : ¬ j < 0) (hk : j.toNatClampNeg = k) (hkn : k < n) {g : JFrame} (hg : g.method = m) {rest : List Value} (hs : g.stack = .int x :: .int j :: .ref a :: rest) (hd : decode c.code g.pc = .ok (.iastore, 1)) :
    ∃ T' h', Stand p l e R s m args below meth c T' (locs ++ [⟨a, k⟩]) cells slots ∧ T'.heap = h' ∧ Wr h h' a k (.int x) ∧ Af Z h' a .int n (fun i => if i = k then .int x else f i) ∧ ∀ target, Steps p.tables e below (T'.setTop { g with pc := g.pc + 1, stack := rest }) target → Steps p.tables e below (T.setTop g) target := by
  obtain ⟨q, cl, B, r1, r2⟩ := id A
  obtain ⟨T', h', X', e', W, st⟩ := stI X hx hZ eT B (own_inb r1 hj hk hkn) hg hs hd
  rw [hk] at X' W
  exact ⟨T', h', X', e', W, A.set W rfl, st⟩
theorem own_stJ (X : Stand p l e R s m args below meth c T locs cells slots) (hx : p.tables.exec = Jvm.exec) (hZ : Z.Warmed39 s.vm) (eT : T.heap = h) (A : Af Z h a .long n f) {j : Int32} {x : Int64} {k : Nat} (hj : ¬ j < 0) (hk : j.toNatClampNeg = k) (hkn : k < n) {g : JFrame} (hg : g.method = m) {rest : List Value} (hs : g.stack = .long x :: .int j :: .ref a :: rest) (hd : decode c.code g.pc = .ok (.lastore, 1)) :
    ∃ T' h', Stand p l e R s m args below meth c T' (locs ++ [⟨a, k⟩]) cells slots ∧ T'.heap = h' ∧ Wr h h' a k (.long x) ∧ Af Z h' a .long n (fun i => if i = k then .long x else f i) ∧ ∀ target, Steps p.tables e below (T'.setTop { g with pc := g.pc + 1, stack := rest }) target → Steps p.tables e below (T.setTop g) target := by
  obtain ⟨q, cl, B, r1, r2⟩ := id A
  obtain ⟨T', h', X', e', W, st⟩ := stJ X hx hZ eT B (own_inb r1 hj hk hkn) hg hs hd
  rw [hk] at X' W
  exact ⟨T', h', X', e', W, A.set W rfl, st⟩
theorem own_stD (X : Stand p l e R s m args below meth c T locs cells slots) (hx : p.tables.exec = Jvm.exec) (hZ : Z.Warmed39 s.vm) (eT : T.heap = h) (A : Af Z h a .double n f) {j : Int32} {x : UInt64} {k : Nat} (hj : ¬ j < 0) (hk : j.toNatClampNeg = k) (hkn : k < n) {g : JFrame} (hg : g.method = m) {rest : List Value} (hs : g.stack = .double x :: .int j :: .ref a :: rest) (hd : decode c.code g.pc = .ok (.dastore, 1)) :
    ∃ T' h', Stand p l e R s m args below meth c T' (locs ++ [⟨a, k⟩]) cells slots ∧ T'.heap = h' ∧ Wr h h' a k (.double x) ∧ Af Z h' a .double n (fun i => if i = k then .double x else f i) ∧ ∀ target, Steps p.tables e below (T'.setTop { g with pc := g.pc + 1, stack := rest }) target → Steps p.tables e below (T.setTop g) target := by
  obtain ⟨q, cl, B, r1, r2⟩ := id A
  obtain ⟨T', h', X', e', W, st⟩ := stD X hx hZ eT B (own_inb r1 hj hk hkn) hg hs hd
  rw [hk] at X' W
  exact ⟨T', h', X', e', W, A.set W rfl, st⟩
theorem own_stZ (X : Stand p l e R s m args below meth c T locs cells slots) (hx : p.tables.exec = Jvm.exec) (hZ : Z.Warmed39 s.vm) (eT : T.heap = h) (A : Af Z h a .boolean n f) {j x y : Int32} {k : Nat} (hj : ¬ j < 0) (hk : j.toNatClampNeg = k) (hkn : k < n) (hy : nar .boolean x = y) {g : JFrame} (hg : g.method = m) {rest : List Value} (hs : g.stack = .int x :: .int j :: .ref a :: rest) (hd : decode c.code g.pc = .ok (.bastore, 1)) :
    ∃ T' h', Stand p l e R s m args below meth c T' (locs ++ [⟨a, k⟩]) cells slots ∧ T'.heap = h' ∧ Wr h h' a k (.int y) ∧ Af Z h' a .boolean n (fun i => if i = k then .int y else f i) ∧ ∀ target, Steps p.tables e below (T'.setTop { g with pc := g.pc + 1, stack := rest }) target → Steps p.tables e below (T.setTop g) target := by
  obtain ⟨q, cl, B, r1, r2⟩ := id A
  obtain ⟨T', h', X', e', W, st⟩ := stZ X hx hZ eT B (own_inb r1 hj hk hkn) hg hs hd
  subst hk hy
  exact ⟨T', h', X', e', W, A.set W (fits_nar_bool x), st⟩
theorem own_stB (X : Stand p l e R s m args below meth c T locs cells slots) (hx : p.tables.exec = Jvm.exec) (hZ : Z.Warmed39 s.vm) (eT : T.heap = h) (A : Af Z h a .byte n f) {j x y : Int32} {k : Nat} (hj : ¬ j < 0) (hk : j.toNatClampNeg = k) (hkn : k < n) (hy : nar .byte x = y) {g : JFrame} (hg : g.method = m) {rest : List Value} (hs : g.stack = .int x :: .int j :: .ref a :: rest) (hd : decode c.code g.pc = .ok (.bastore, 1)) :
    ∃ T' h', Stand p l e R s m args below meth c T' (locs ++ [⟨a, k⟩]) cells slots ∧ T'.heap = h' ∧ Wr h h' a k (.int y) ∧ Af Z h' a .byte n (fun i => if i = k then .int y else f i) ∧ ∀ target, Steps p.tables e below (T'.setTop { g with pc := g.pc + 1, stack := rest }) target → Steps p.tables e below (T.setTop g) target := by
  obtain ⟨q, cl, B, r1, r2⟩ := id A
  obtain ⟨T', h', X', e', W, st⟩ := stB X hx hZ eT B (own_inb r1 hj hk hkn) hg hs hd
  subst hk hy
  exact ⟨T', h', X', e', W, A.set W (fits_nar_byte x), st⟩
end AfX

theorem own_lenz {args : Array Value} {s : State} {t : Term} {a : Addr} {cl : Cell} {ty : FieldType} {z : Int32} {n : Nat} (h : (Term.length t).eval args s none [] s = some (.int z)) (ev : t.eval args s none [] s = some (.ref a)) (A : Arr s s.heap a cl ty) (hz : z.toNatClampNeg = n) : n < 2 ^ 31 ∧ cl.slots.size = n := by
  have hc : s.arrayAt? a = some cl := Arr.fin (Vm.Alike.refl _) A
  by_cases hn : cl.slots.size < 2 ^ 31
  · have q := (len_f (t := t) ev hc hn).symm.trans h
    have q' : cl.slots.size.toInt32 = z := by injection q with q; injection q
    have : cl.slots.size = n := by rw [← hz, ← q']; exact (nat32 hn).symm
    exact ⟨this ▸ hn, this⟩
  · exfalso
    obtain ⟨a', c', e1, e2, -⟩ := Term.length_spec h
    simp [Term.eval, ev, hc, hn] at h
theorem own_af {s : State} {a : Addr} {cl : Cell} {ty : FieldType} {n : Nat} (hf : Fit s) (A : Arr s s.heap a cl ty) (hn : n < 2 ^ 31 ∧ cl.slots.size = n) : Af s s.heap a ty n (fun i => (cl.slots[i]?).getD .null) := by
  refine ⟨hn.1, cl, A, hn.2, fun i hi => ?_⟩
  have hi' : i < cl.slots.size := by rw [hn.2]; exact hi
  have q := FitC.start hf A i _ (Array.getElem?_eq_getElem hi')
  have e : cl.slots[i]? = some cl.slots[i] := Array.getElem?_eq_getElem hi'
  show cl.slots[i]? = some ((cl.slots[i]?).getD .null) ∧ fits ty ((cl.slots[i]?).getD .null) = true
  rw [e]
  refine ⟨rfl, ?_⟩
  obtain ⟨hs, k, hk, comp, hkind⟩ := A.2.1
  have u : s.slotType? cl.cls .none i = some ty := by simp [State.slotType?, hk, hkind]
  simpa [State.fitsSlot, u] using q

theorem own_ldR {p : Program} {l : Launch} {e : Env} {R : Room} {s : State} {m : MethodId} {args : Array Value} {below : List Frame} {meth : Method} {c : Code} {T : State} {locs : List Loc} {cells slots : Nat} {Z : State} {h : Heap} {a : Addr} {ty : FieldType} {n : Nat} {f : Nat → Value}
    (X : Stand p l e R s m args below meth c T locs cells slots) (hx : p.tables.exec = Jvm.exec) (hZ : Z.Warmed39 s.vm) (eT : T.heap = h) (A : Af Z h a ty n f) (hty : ty.isReference = true) {j : Int32} {k : Nat} (hj : ¬ j < 0) (hk : j.toNatClampNeg = k) (hkn : k < n) {w : Value} (hv : f k = w) {g : JFrame} (hg : g.method = m) {rest : List Value} (hs : g.stack = .int j :: .ref a :: rest) (hd : decode c.code g.pc = .ok (.aaload, 1)) {target : State}
    (hr : Steps p.tables e below (T.setTop { g with pc := g.pc + 1, stack := w :: rest }) target) : Steps p.tables e below (T.setTop g) target := by
  obtain ⟨q, cl, A, r1, r2⟩ := A
  exact X.aaload hx (by rw [eT]; exact A.1) (State.isArrayOf_alike hZ.alike A.2.1) hty A.2.2 (own_inb r1 hj hk hkn) (by rw [hk, (r2 k hkn).1, hv]) hg hs hd _ hr

theorem own_nsroot {Z : State} {a0 : Array Value} {O K : String} {n : Nat} (w : (Jvm.Cond.noSuperclass O).before a0 Z = true) (wk : (Jvm.Cond.instantiable K n).before a0 Z = true) (hn : O ≠ K) : NS Z O K := by
  obtain ⟨c, k, h1, h2, h3, -, -⟩ := Cond.noSuperclass_spec w
  obtain ⟨t, kt, g1, g2, -⟩ := Cond.instantiable_spec wk
  have ne := ids_ne h1 g1 hn
  refine ⟨c, t, h1, g1, fun fuel => ?_⟩
  cases fuel with
  | zero => rfl
  | succ f => simp [Vm.isSubclassAux, ne, h2, h3]
theorem own_nsno {Z : State} {a0 : Array Value} {C S K : String} {n : Nat} (w : (Jvm.Cond.superclass C S).before a0 Z = true) (wk : (Jvm.Cond.instantiable K n).before a0 Z = true) (nn : NS Z C K) (hn : C ≠ K) : ∃ c t, Z.vm.findClass C = some c ∧ Z.vm.findClass K = some t ∧ Z.vm.assignable c t = false := by
  obtain ⟨c, t, h0, g0, n3⟩ := nn
  obtain ⟨p, k, kp, h1, h2, h3, h4, h5, -, h7⟩ := Cond.superclass_spec h0 w
  obtain ⟨t', k', g1, g2, g5, g7, -, -⟩ := Cond.instantiable_spec wk
  cases g0.symm.trans g1
  have ne := ids_ne h0 g0 hn
  have g8 : k'.isInterface = false := by simp at g7; exact g7.1
  refine ⟨c, t, h0, g0, ?_⟩
  show Z.vm.assignableAux (255 + 1) c t = false
  simp [Vm.assignableAux, ne, h2, g2, h5, g5, g8, Vm.isSubclass, n3]
theorem d1_0 : decode method_2_code 0 = .ok (.iload_n 0, 1) := by decide +kernel
theorem d1_1 : decode method_2_code 1 = .ok (.ifCond .eq 5, 3) := by decide +kernel
theorem d1_4 : decode method_2_code 4 = .ok (.lconst 0, 1) := by decide +kernel
theorem d1_5 : decode method_2_code 5 = .ok (.lreturn, 1) := by decide +kernel
theorem d1_6 : decode method_2_code 6 = .ok (.lload_n 2, 1) := by decide +kernel
theorem d1_7 : decode method_2_code 7 = .ok (.ldc2_w 9, 3) := by decide +kernel
theorem d1_10 : decode method_2_code 10 = .ok (.land, 1) := by decide +kernel
theorem d1_11 : decode method_2_code 11 = .ok (.lstore 4, 2) := by decide +kernel
theorem d1_13 : decode method_2_code 13 = .ok (.iload_n 1, 1) := by decide +kernel
theorem d1_14 : decode method_2_code 14 = .ok (.ifCond .ne 12, 3) := by decide +kernel
theorem d1_17 : decode method_2_code 17 = .ok (.lload 4, 2) := by decide +kernel
theorem d1_19 : decode method_2_code 19 = .ok (.lconst 0, 1) := by decide +kernel
theorem d1_20 : decode method_2_code 20 = .ok (.lcmp, 1) := by decide +kernel
theorem d1_21 : decode method_2_code 21 = .ok (.ifCond .ne 5, 3) := by decide +kernel
theorem d1_24 : decode method_2_code 24 = .ok (.lconst 1, 1) := by decide +kernel
theorem d1_25 : decode method_2_code 25 = .ok (.lreturn, 1) := by decide +kernel
theorem d1_26 : decode method_2_code 26 = .ok (.lload 4, 2) := by decide +kernel
theorem d1_28 : decode method_2_code 28 = .ok (.lreturn, 1) := by decide +kernel
theorem own_pn_rm1 : plainName "com/example/libbrake/libbrake/DecisionEqualsPinLaw" = true := by first | (simp [plainName, overriddenIn]; done) | decide +kernel
theorem own_ef_rm1 (m : MethodId) (p0 : Int32) (p1 : Int32) (q2 : Int64) : entryFrame m #[(.int p0), (.int p1), (.long q2)] 6 = mkF m 0 #[.val (.int p0), .val (.int p1), .val (.long q2), .second, .unset, .unset] [] := by first | (simp [entryFrame, mkF, argsToLocals, Value.category]; done) | rfl
def fW (p0 : Int32) (p1 : Int32) (q2 : Int64) : Int64 := if p0 = (0 : Int32) then if p1 = (0 : Int32) then if (q2 &&& (9223372036854775807 : Int64)) = (0 : Int64) then (1 : Int64) else ((q2 &&& (9223372036854775807 : Int64))) else ((q2 &&& (9223372036854775807 : Int64))) else ((0 : Int64))
def Q1 (Z : State) (p0 : Int32) (p1 : Int32) (q2 : Int64) (h0 : Heap) (n0 : Nat) (v : Option Value) (h : Heap) (L : List Loc) : Prop := v = some (.long (fW p0 p1 q2)) ∧ Fr n0 L ∧ h = h0
set_option maxRecDepth 65536 in
set_option maxHeartbeats 40000000 in
theorem rm1 (l : Launch) (Z : State) (a0 : Array Value) (hw : ∀ d ∈ tables_1, d.before a0 Z = true) (ws : List Jvm.Cond) (p0 : Int32) (p1 : Int32) (q2 : Int64) (h0 : Heap) (n0 : Nat) (Z0 : n0 ≤ h0.size) :
    MetFree l (⟨"com/example/libbrake/libbrake/DecisionEqualsPinLaw", "waitFor", "(ZZJ)J"⟩ : MethodName) (head1 (Jvm.Cond.code (⟨"com/example/libbrake/libbrake/DecisionEqualsPinLaw", "waitFor", "(ZZJ)J"⟩ : MethodName) method_2_code 6 (some .long) :: ws) ({ frames := 0, cells := 0, slots := 0, locals := 0 } : Room)) (fun a U => a = #[(.int p0), (.int p1), (.long q2)] ∧ Z.Warmed39 U.vm ∧ U.heap = h0) (fun _ _ _ _ _ => True) (fun _ U o U' => ∃ v L, o = .returned v ∧ Q1 Z p0 p1 q2 h0 n0 v U'.heap L ∧ FrameEnd U o U' L ({ frames := 0, cells := 0, slots := 0, locals := 0 } : Room).cells ({ frames := 0, cells := 0, slots := 0, locals := 0 } : Room).slots) := by
  refine MetFree.of_bodySF (plainFor_of_name own_pn_rm1) hisR ?_
  intro p e s m args below meth cO s₁ Bd hml0 hP hK
  obtain ⟨rfl, hZ, hh⟩ := hP
  have hx := Bd.exec
  have hby := Bd.bytes
  have hml : cO.maxLocals = 6 := hml0
  have hown : s.vm.findClass "com/example/libbrake/libbrake/DecisionEqualsPinLaw" = some m.cls := findClass_of_methodNamed Bd.named
  have hnm := (name_of_methodNamed Bd.named Bd.method).1
  have hlk : meth.locks = false := BodyLoose.notSynchronized Bd
  have X0 : Stand p l e ({ frames := 0, cells := 0, slots := 0, locals := 0 } : Room) s m #[(.int p0), (.int p1), (.long q2)] below meth cO s₁ [] 0 0 := Stand.of_body Bd
  have e0 : s₁.heap = h0 := by rw [← hh, Bd.state]; rfl
  have N0 := Fr.nil n0
  refine own_in (own_ef_rm1 m p0 p1 q2) ?_
  show Gm p e below s₁ m 0 #[iv p0, iv p1, lv q2, .second, .unset, .unset] [] _
  refine own_go (fun t₀ k₀ => XS.iloadN X0.here hx rfl (Jvm.hb hby d1_0) rfl k₀) ?_
  show Gm p e below s₁ m 1 #[iv p0, iv p1, lv q2, .second, .unset, .unset] [(.int p0)] _
  by_cases c1 : p0 = (0 : Int32)
  · have hfork := trivial
    refine own_go (fun t₀ k₀ => XS.ifYes X0.here hx rfl (pc0 := 1) (pc' := 6) rfl (Jvm.hb hby d1_1) rfl (XT.i0_eq_t c1) (by decide) (by decide) k₀) ?_
    show Gm p e below s₁ m 6 #[iv p0, iv p1, lv q2, .second, .unset, .unset] [] _
    refine own_go (fun t₀ k₀ => XS.lloadN X0.here hx rfl (Jvm.hb hby d1_6) rfl k₀) ?_
    show Gm p e below s₁ m 7 #[iv p0, iv p1, lv q2, .second, .unset, .unset] [(.long q2)] _
    refine own_go (fun t₀ k₀ => X0.ldc2J hx hown (mvT hZ (hw _ (List.mem_of_getElem? (i := 0) rfl))) rfl (Jvm.hb hby d1_7) k₀) ?_
    show Gm p e below s₁ m 10 #[iv p0, iv p1, lv q2, .second, .unset, .unset] [(.long (9223372036854775807 : Int64)), (.long q2)] _
    refine own_go (fun t₀ k₀ => XS.land X0.here hx rfl (Jvm.hb hby d1_10) rfl k₀) ?_
    show Gm p e below s₁ m 11 #[iv p0, iv p1, lv q2, .second, .unset, .unset] [(.long (q2 &&& (9223372036854775807 : Int64)))] _
    refine own_go (fun t₀ k₀ => XS.lstore X0.here hx rfl (Jvm.hb hby d1_11) rfl (l' := #[iv p0, iv p1, lv q2, .second, lv (q2 &&& (9223372036854775807 : Int64)), .second]) rfl k₀) ?_
    show Gm p e below s₁ m 13 #[iv p0, iv p1, lv q2, .second, lv (q2 &&& (9223372036854775807 : Int64)), .second] [] _
    refine own_go (fun t₀ k₀ => XS.iloadN X0.here hx rfl (Jvm.hb hby d1_13) rfl k₀) ?_
    show Gm p e below s₁ m 14 #[iv p0, iv p1, lv q2, .second, lv (q2 &&& (9223372036854775807 : Int64)), .second] [(.int p1)] _
    by_cases c2 : p1 = (0 : Int32)
    · have hfork := trivial
      refine own_go (fun t₀ k₀ => XS.ifNo X0.here hx rfl (Jvm.hb hby d1_14) rfl (XT.i0_ne_f c2) k₀) ?_
      show Gm p e below s₁ m 17 #[iv p0, iv p1, lv q2, .second, lv (q2 &&& (9223372036854775807 : Int64)), .second] [] _
      refine own_go (fun t₀ k₀ => XS.lload X0.here hx rfl (Jvm.hb hby d1_17) rfl k₀) ?_
      show Gm p e below s₁ m 19 #[iv p0, iv p1, lv q2, .second, lv (q2 &&& (9223372036854775807 : Int64)), .second] [(.long (q2 &&& (9223372036854775807 : Int64)))] _
      refine own_go (fun t₀ k₀ => XS.lconst X0.here hx rfl (Jvm.hb hby d1_19) k₀) ?_
      show Gm p e below s₁ m 20 #[iv p0, iv p1, lv q2, .second, lv (q2 &&& (9223372036854775807 : Int64)), .second] [(.long (0 : Int64)), (.long (q2 &&& (9223372036854775807 : Int64)))] _
      refine own_go (fun t₀ k₀ => XT.lcmp X0.here hx rfl (Jvm.hb hby d1_20) rfl k₀) ?_
      show Gm p e below s₁ m 21 #[iv p0, iv p1, lv q2, .second, lv (q2 &&& (9223372036854775807 : Int64)), .second] [(.int (XT.cmpL (q2 &&& (9223372036854775807 : Int64)) (0 : Int64)))] _
      by_cases c3 : (q2 &&& (9223372036854775807 : Int64)) = (0 : Int64)
      · have hfork := trivial
        refine own_go (fun t₀ k₀ => XS.ifNo X0.here hx rfl (Jvm.hb hby d1_21) rfl (XT.ll_ne_f c3) k₀) ?_
        show Gm p e below s₁ m 24 #[iv p0, iv p1, lv q2, .second, lv (q2 &&& (9223372036854775807 : Int64)), .second] [] _
        refine own_go (fun t₀ k₀ => XS.lconst X0.here hx rfl (Jvm.hb hby d1_24) k₀) ?_
        show Gm p e below s₁ m 25 #[iv p0, iv p1, lv q2, .second, lv (q2 &&& (9223372036854775807 : Int64)), .second] [(.long (1 : Int64))] _
        exact own_retL X0 hx hlk Bd.returns (Jvm.hb hby d1_25) e0 ⟨(by unfold fW; rw [if_pos c1, if_pos c2, if_pos c3]), N0, rfl⟩ (by decide) (by decide)
      · have hfork := trivial
        refine own_go (fun t₀ k₀ => XS.ifYes X0.here hx rfl (pc0 := 21) (pc' := 26) rfl (Jvm.hb hby d1_21) rfl (XT.ll_ne_t c3) (by decide) (by decide) k₀) ?_
        show Gm p e below s₁ m 26 #[iv p0, iv p1, lv q2, .second, lv (q2 &&& (9223372036854775807 : Int64)), .second] [] _
        refine own_go (fun t₀ k₀ => XS.lload X0.here hx rfl (Jvm.hb hby d1_26) rfl k₀) ?_
        show Gm p e below s₁ m 28 #[iv p0, iv p1, lv q2, .second, lv (q2 &&& (9223372036854775807 : Int64)), .second] [(.long (q2 &&& (9223372036854775807 : Int64)))] _
        exact own_retL X0 hx hlk Bd.returns (Jvm.hb hby d1_28) e0 ⟨(by unfold fW; rw [if_pos c1, if_pos c2, if_neg c3]), N0, rfl⟩ (by decide) (by decide)
    · have hfork := trivial
      refine own_go (fun t₀ k₀ => XS.ifYes X0.here hx rfl (pc0 := 14) (pc' := 26) rfl (Jvm.hb hby d1_14) rfl (XT.i0_ne_t c2) (by decide) (by decide) k₀) ?_
      show Gm p e below s₁ m 26 #[iv p0, iv p1, lv q2, .second, lv (q2 &&& (9223372036854775807 : Int64)), .second] [] _
      refine own_go (fun t₀ k₀ => XS.lload X0.here hx rfl (Jvm.hb hby d1_26) rfl k₀) ?_
      show Gm p e below s₁ m 28 #[iv p0, iv p1, lv q2, .second, lv (q2 &&& (9223372036854775807 : Int64)), .second] [(.long (q2 &&& (9223372036854775807 : Int64)))] _
      exact own_retL X0 hx hlk Bd.returns (Jvm.hb hby d1_28) e0 ⟨(by unfold fW; rw [if_pos c1, if_neg c2]), N0, rfl⟩ (by decide) (by decide)
  · have hfork := trivial
    refine own_go (fun t₀ k₀ => XS.ifNo X0.here hx rfl (Jvm.hb hby d1_1) rfl (XT.i0_eq_f c1) k₀) ?_
    show Gm p e below s₁ m 4 #[iv p0, iv p1, lv q2, .second, .unset, .unset] [] _
    refine own_go (fun t₀ k₀ => XS.lconst X0.here hx rfl (Jvm.hb hby d1_4) k₀) ?_
    show Gm p e below s₁ m 5 #[iv p0, iv p1, lv q2, .second, .unset, .unset] [(.long (0 : Int64))] _
    exact own_retL X0 hx hlk Bd.returns (Jvm.hb hby d1_5) e0 ⟨(by unfold fW; rw [if_neg c1]), N0, rfl⟩ (by decide) (by decide)
theorem d2_0 : decode prog_12_method_1_code 0 = .ok (.aload_n 0, 1) := by decide +kernel
theorem d2_1 : decode prog_12_method_1_code 1 = .ok (.invokespecial 1, 3) := by decide +kernel
theorem d2_4 : decode prog_12_method_1_code 4 = .ok (.lload_n 2, 1) := by decide +kernel
theorem d2_5 : decode prog_12_method_1_code 5 = .ok (.lconst 0, 1) := by decide +kernel
theorem d2_6 : decode prog_12_method_1_code 6 = .ok (.lcmp, 1) := by decide +kernel
theorem d2_7 : decode prog_12_method_1_code 7 = .ok (.ifCond .ge 17, 3) := by decide +kernel
theorem d2_24 : decode prog_12_method_1_code 24 = .ok (.lload 4, 2) := by decide +kernel
theorem d2_26 : decode prog_12_method_1_code 26 = .ok (.lconst 0, 1) := by decide +kernel
theorem d2_27 : decode prog_12_method_1_code 27 = .ok (.lcmp, 1) := by decide +kernel
theorem d2_28 : decode prog_12_method_1_code 28 = .ok (.ifCond .ge 18, 3) := by decide +kernel
theorem d2_46 : decode prog_12_method_1_code 46 = .ok (.iload_n 1, 1) := by decide +kernel
theorem d2_47 : decode prog_12_method_1_code 47 = .ok (.ifCond .eq 25, 3) := by decide +kernel
theorem d2_50 : decode prog_12_method_1_code 50 = .ok (.lload 4, 2) := by decide +kernel
theorem d2_52 : decode prog_12_method_1_code 52 = .ok (.lconst 0, 1) := by decide +kernel
theorem d2_53 : decode prog_12_method_1_code 53 = .ok (.lcmp, 1) := by decide +kernel
theorem d2_54 : decode prog_12_method_1_code 54 = .ok (.ifCond .eq 18, 3) := by decide +kernel
theorem d2_72 : decode prog_12_method_1_code 72 = .ok (.iload_n 1, 1) := by decide +kernel
theorem d2_73 : decode prog_12_method_1_code 73 = .ok (.ifCond .ne 25, 3) := by decide +kernel
theorem d2_76 : decode prog_12_method_1_code 76 = .ok (.iload 6, 2) := by decide +kernel
theorem d2_78 : decode prog_12_method_1_code 78 = .ok (.ifCond .ne 20, 3) := by decide +kernel
theorem d2_81 : decode prog_12_method_1_code 81 = .ok (.lload 4, 2) := by decide +kernel
theorem d2_83 : decode prog_12_method_1_code 83 = .ok (.lconst 0, 1) := by decide +kernel
theorem d2_84 : decode prog_12_method_1_code 84 = .ok (.lcmp, 1) := by decide +kernel
theorem d2_85 : decode prog_12_method_1_code 85 = .ok (.ifCond .ne 13, 3) := by decide +kernel
theorem d2_98 : decode prog_12_method_1_code 98 = .ok (.aload_n 0, 1) := by decide +kernel
theorem d2_99 : decode prog_12_method_1_code 99 = .ok (.iload_n 1, 1) := by decide +kernel
theorem d2_100 : decode prog_12_method_1_code 100 = .ok (.putfield 20, 3) := by decide +kernel
theorem d2_103 : decode prog_12_method_1_code 103 = .ok (.aload_n 0, 1) := by decide +kernel
theorem d2_104 : decode prog_12_method_1_code 104 = .ok (.lload_n 2, 1) := by decide +kernel
theorem d2_105 : decode prog_12_method_1_code 105 = .ok (.putfield 26, 3) := by decide +kernel
theorem d2_108 : decode prog_12_method_1_code 108 = .ok (.aload_n 0, 1) := by decide +kernel
theorem d2_109 : decode prog_12_method_1_code 109 = .ok (.lload 4, 2) := by decide +kernel
theorem d2_111 : decode prog_12_method_1_code 111 = .ok (.putfield 30, 3) := by decide +kernel
theorem d2_114 : decode prog_12_method_1_code 114 = .ok (.aload_n 0, 1) := by decide +kernel
theorem d2_115 : decode prog_12_method_1_code 115 = .ok (.iload 6, 2) := by decide +kernel
theorem d2_117 : decode prog_12_method_1_code 117 = .ok (.putfield 33, 3) := by decide +kernel
theorem d2_120 : decode prog_12_method_1_code 120 = .ok (.return_, 1) := by decide +kernel
theorem own_pn_rm2 : plainName "com/example/libbrake/libbrake/Decision" = true := by first | (simp [plainName, overriddenIn]; done) | decide +kernel
theorem own_ef_rm2 (m : MethodId) (r0 : Addr) (p1 : Int32) (q2 : Int64) (q3 : Int64) (p4 : Int32) : entryFrame m #[(.ref r0), (.int p1), (.long q2), (.long q3), (.int p4)] 7 = mkF m 0 #[.val (.ref r0), .val (.int p1), .val (.long q2), .second, .val (.long q3), .second, .val (.int p4)] [] := by first | (simp [entryFrame, mkF, argsToLocals, Value.category]; done) | rfl
def Q2 (Z : State) (r0 : Addr) (p1 : Int32) (q2 : Int64) (q3 : Int64) (p4 : Int32) (h0 : Heap) (n0 : Nat) (v : Option Value) (h : Heap) (L : List Loc) : Prop := v = none ∧ Fr n0 L ∧ Keep h0 h [r0] ∧ Exa Z h r0 "com/example/libbrake/libbrake/Decision" ∧ Fld Z h r0 "com/example/libbrake/libbrake/Decision" "allowed" "Z" (.int p1) ∧ Fld Z h r0 "com/example/libbrake/libbrake/Decision" "remaining" "J" (.long q2) ∧ Fld Z h r0 "com/example/libbrake/libbrake/Decision" "waitMillis" "J" (.long q3) ∧ Fld Z h r0 "com/example/libbrake/libbrake/Decision" "fallback" "Z" (.int p4)
set_option maxRecDepth 65536 in
set_option maxHeartbeats 40000000 in
theorem rm2 (l : Launch) (Z : State) (a0 : Array Value) (hw : ∀ d ∈ tables_1, d.before a0 Z = true) (ws : List Jvm.Cond) (r0 : Addr) (p1 : Int32) (q2 : Int64) (q3 : Int64) (p4 : Int32) (h0 : Heap) (n0 : Nat) (Z0 : n0 ≤ h0.size) (E_r0 : Exa Z h0 r0 "com/example/libbrake/libbrake/Decision") (F_allowed : Fld Z h0 r0 "com/example/libbrake/libbrake/Decision" "allowed" "Z" (.int (0 : Int32))) (F_remaining : Fld Z h0 r0 "com/example/libbrake/libbrake/Decision" "remaining" "J" (.long (0 : Int64))) (F_waitMillis : Fld Z h0 r0 "com/example/libbrake/libbrake/Decision" "waitMillis" "J" (.long (0 : Int64))) (F_fallback : Fld Z h0 r0 "com/example/libbrake/libbrake/Decision" "fallback" "Z" (.int (0 : Int32))) (g_r0 : n0 ≤ r0) (h1 : ¬ q2 < 0) (h2 : ¬ q3 < 0) (hA : ¬ p1 = 0 → q3 = 0) (hB : p1 = 0 → p4 = 0 → ¬ q3 = 0) (b1 : p1 = 0 ∨ p1 = 1) (b4 : p4 = 0 ∨ p4 = 1) :
    MetFree l (⟨"com/example/libbrake/libbrake/Decision", "<init>", "(ZJJZ)V"⟩ : MethodName) (head1 (Jvm.Cond.code (⟨"com/example/libbrake/libbrake/Decision", "<init>", "(ZJJZ)V"⟩ : MethodName) prog_12_method_1_code 7 none :: ws) ({ frames := 1, cells := 0, slots := 0, locals := 12 } : Room)) (fun a U => a = #[(.ref r0), (.int p1), (.long q2), (.long q3), (.int p4)] ∧ Z.Warmed39 U.vm ∧ U.heap = h0) (fun _ _ _ _ _ => True) (fun _ U o U' => ∃ v L, o = .returned v ∧ Q2 Z r0 p1 q2 q3 p4 h0 n0 v U'.heap L ∧ FrameEnd U o U' L ({ frames := 1, cells := 0, slots := 0, locals := 12 } : Room).cells ({ frames := 1, cells := 0, slots := 0, locals := 12 } : Room).slots) := by
  refine MetFree.of_bodySF (plainFor_of_name own_pn_rm2) hisR ?_
  intro p e s m args below meth cO s₁ Bd hml0 hP hK
  obtain ⟨rfl, hZ, hh⟩ := hP
  have hx := Bd.exec
  have hby := Bd.bytes
  have hml : cO.maxLocals = 7 := hml0
  have hown : s.vm.findClass "com/example/libbrake/libbrake/Decision" = some m.cls := findClass_of_methodNamed Bd.named
  have hnm := (name_of_methodNamed Bd.named Bd.method).1
  have hlk : meth.locks = false := BodyLoose.notSynchronized Bd
  have X0 : Stand p l e ({ frames := 1, cells := 0, slots := 0, locals := 12 } : Room) s m #[(.ref r0), (.int p1), (.long q2), (.long q3), (.int p4)] below meth cO s₁ [] 0 0 := Stand.of_body Bd
  have e0 : s₁.heap = h0 := by rw [← hh, Bd.state]; rfl
  have N0 := Fr.nil n0
  refine own_in (own_ef_rm2 m r0 p1 q2 q3 p4) ?_
  show Gm p e below s₁ m 0 #[rv r0, iv p1, lv q2, .second, lv q3, .second, iv p4] [] _
  refine own_go (fun t₀ k₀ => XS.aloadN X0.here hx rfl (Jvm.hb hby d2_0) rfl rfl k₀) ?_
  show Gm p e below s₁ m 1 #[rv r0, iv p1, lv q2, .second, lv q3, .second, iv p4] [(.ref r0)] _
  obtain ⟨T1, X1, e1, st1⟩ := initO X0 hx hZ hown (hw _ (List.mem_of_getElem? (i := 11) rfl)) (hw _ (List.mem_of_getElem? (i := 12) rfl)) (hw _ (List.mem_of_getElem? (i := 13) rfl)) e0 (g := (mkF m 1 #[rv r0, iv p1, lv q2, .second, lv q3, .second, iv p4] [(.ref r0)])) rfl (by rw [hml]; rfl) rfl (Jvm.hb hby d2_1) (by decide) (W := 0) (by show 2 * 0 + _ ≤ _; exact Nat.le_of_eq rfl) (by decide)
  refine own_go st1 ?_
  show Gm p e below T1 m 4 #[rv r0, iv p1, lv q2, .second, lv q3, .second, iv p4] [] _
  refine own_go (fun t₀ k₀ => XS.lloadN X1.here hx rfl (Jvm.hb hby d2_4) rfl k₀) ?_
  show Gm p e below T1 m 5 #[rv r0, iv p1, lv q2, .second, lv q3, .second, iv p4] [(.long q2)] _
  refine own_go (fun t₀ k₀ => XS.lconst X1.here hx rfl (Jvm.hb hby d2_5) k₀) ?_
  show Gm p e below T1 m 6 #[rv r0, iv p1, lv q2, .second, lv q3, .second, iv p4] [(.long (0 : Int64)), (.long q2)] _
  refine own_go (fun t₀ k₀ => XT.lcmp X1.here hx rfl (Jvm.hb hby d2_6) rfl k₀) ?_
  show Gm p e below T1 m 7 #[rv r0, iv p1, lv q2, .second, lv q3, .second, iv p4] [(.int (XT.cmpL q2 (0 : Int64)))] _
  refine own_go (fun t₀ k₀ => XS.ifYes X1.here hx rfl (pc0 := 7) (pc' := 24) rfl (Jvm.hb hby d2_7) rfl (XT.ll_ge_t h1) (by decide) (by decide) k₀) ?_
  show Gm p e below T1 m 24 #[rv r0, iv p1, lv q2, .second, lv q3, .second, iv p4] [] _
  refine own_go (fun t₀ k₀ => XS.lload X1.here hx rfl (Jvm.hb hby d2_24) rfl k₀) ?_
  show Gm p e below T1 m 26 #[rv r0, iv p1, lv q2, .second, lv q3, .second, iv p4] [(.long q3)] _
  refine own_go (fun t₀ k₀ => XS.lconst X1.here hx rfl (Jvm.hb hby d2_26) k₀) ?_
  show Gm p e below T1 m 27 #[rv r0, iv p1, lv q2, .second, lv q3, .second, iv p4] [(.long (0 : Int64)), (.long q3)] _
  refine own_go (fun t₀ k₀ => XT.lcmp X1.here hx rfl (Jvm.hb hby d2_27) rfl k₀) ?_
  show Gm p e below T1 m 28 #[rv r0, iv p1, lv q2, .second, lv q3, .second, iv p4] [(.int (XT.cmpL q3 (0 : Int64)))] _
  refine own_go (fun t₀ k₀ => XS.ifYes X1.here hx rfl (pc0 := 28) (pc' := 46) rfl (Jvm.hb hby d2_28) rfl (XT.ll_ge_t h2) (by decide) (by decide) k₀) ?_
  show Gm p e below T1 m 46 #[rv r0, iv p1, lv q2, .second, lv q3, .second, iv p4] [] _
  refine own_go (fun t₀ k₀ => XS.iloadN X1.here hx rfl (Jvm.hb hby d2_46) rfl k₀) ?_
  show Gm p e below T1 m 47 #[rv r0, iv p1, lv q2, .second, lv q3, .second, iv p4] [(.int p1)] _
  by_cases c2 : p1 = (0 : Int32)
  · have hfork := trivial
    refine own_go (fun t₀ k₀ => XS.ifYes X1.here hx rfl (pc0 := 47) (pc' := 72) rfl (Jvm.hb hby d2_47) rfl (XT.i0_eq_t c2) (by decide) (by decide) k₀) ?_
    show Gm p e below T1 m 72 #[rv r0, iv p1, lv q2, .second, lv q3, .second, iv p4] [] _
    refine own_go (fun t₀ k₀ => XS.iloadN X1.here hx rfl (Jvm.hb hby d2_72) rfl k₀) ?_
    show Gm p e below T1 m 73 #[rv r0, iv p1, lv q2, .second, lv q3, .second, iv p4] [(.int p1)] _
    refine own_go (fun t₀ k₀ => XS.ifNo X1.here hx rfl (Jvm.hb hby d2_73) rfl (XT.i0_ne_f c2) k₀) ?_
    show Gm p e below T1 m 76 #[rv r0, iv p1, lv q2, .second, lv q3, .second, iv p4] [] _
    refine own_go (fun t₀ k₀ => XS.iload X1.here hx rfl (Jvm.hb hby d2_76) rfl k₀) ?_
    show Gm p e below T1 m 78 #[rv r0, iv p1, lv q2, .second, lv q3, .second, iv p4] [(.int p4)] _
    by_cases c3 : p4 = (0 : Int32)
    · have hfork := trivial
      refine own_go (fun t₀ k₀ => XS.ifNo X1.here hx rfl (Jvm.hb hby d2_78) rfl (XT.i0_ne_f c3) k₀) ?_
      show Gm p e below T1 m 81 #[rv r0, iv p1, lv q2, .second, lv q3, .second, iv p4] [] _
      refine own_go (fun t₀ k₀ => XS.lload X1.here hx rfl (Jvm.hb hby d2_81) rfl k₀) ?_
      show Gm p e below T1 m 83 #[rv r0, iv p1, lv q2, .second, lv q3, .second, iv p4] [(.long q3)] _
      refine own_go (fun t₀ k₀ => XS.lconst X1.here hx rfl (Jvm.hb hby d2_83) k₀) ?_
      show Gm p e below T1 m 84 #[rv r0, iv p1, lv q2, .second, lv q3, .second, iv p4] [(.long (0 : Int64)), (.long q3)] _
      refine own_go (fun t₀ k₀ => XT.lcmp X1.here hx rfl (Jvm.hb hby d2_84) rfl k₀) ?_
      show Gm p e below T1 m 85 #[rv r0, iv p1, lv q2, .second, lv q3, .second, iv p4] [(.int (XT.cmpL q3 (0 : Int64)))] _
      refine own_go (fun t₀ k₀ => XS.ifYes X1.here hx rfl (pc0 := 85) (pc' := 98) rfl (Jvm.hb hby d2_85) rfl (XT.ll_ne_t (hB c2 c3)) (by decide) (by decide) k₀) ?_
      show Gm p e below T1 m 98 #[rv r0, iv p1, lv q2, .second, lv q3, .second, iv p4] [] _
      refine own_go (fun t₀ k₀ => XS.aloadN X1.here hx rfl (Jvm.hb hby d2_98) rfl rfl k₀) ?_
      show Gm p e below T1 m 99 #[rv r0, iv p1, lv q2, .second, lv q3, .second, iv p4] [(.ref r0)] _
      refine own_go (fun t₀ k₀ => XS.iloadN X1.here hx rfl (Jvm.hb hby d2_99) rfl k₀) ?_
      show Gm p e below T1 m 100 #[rv r0, iv p1, lv q2, .second, lv q3, .second, iv p4] [(.int p1), (.ref r0)] _
      obtain ⟨T4, h4, X4, e4, W4, st4⟩ := putFN X1 hx hZ hown (hw _ (List.mem_of_getElem? (i := 14) rfl)) Via.refl e1 F_allowed E_r0 (Or.inr ⟨(hw _ (List.mem_of_getElem? (i := 15) rfl)), rfl, hnm⟩) (hw _ (List.mem_of_getElem? (i := 6) rfl)) (ty := .boolean) (v' := (.int p1)) (by decide) (by rcases b1 with q | q <;> rw [q] <;> rfl) (by rcases b1 with q | q <;> rw [q] <;> rfl) (g := (mkF m 100 #[rv r0, iv p1, lv q2, .second, lv q3, .second, iv p4] [(.int p1), (.ref r0)])) rfl rfl (Jvm.hb hby d2_100)
      have Fw4 := Fld.same W4 F_allowed
      have N4 := Fr.snoc X4 N0 g_r0
      have Z4 : n0 ≤ h4.size := W4.size ▸ Z0
      have K4 : Keep h0 h4 [r0] := Keep.wr (Keep.refl h0 [r0]) W4 (Or.inl (List.mem_of_getElem? (i := 0) rfl))
      refine own_go st4 ?_
      show Gm p e below T4 m 103 #[rv r0, iv p1, lv q2, .second, lv q3, .second, iv p4] [] _
      refine own_go (fun t₀ k₀ => XS.aloadN X4.here hx rfl (Jvm.hb hby d2_103) rfl rfl k₀) ?_
      show Gm p e below T4 m 104 #[rv r0, iv p1, lv q2, .second, lv q3, .second, iv p4] [(.ref r0)] _
      refine own_go (fun t₀ k₀ => XS.lloadN X4.here hx rfl (Jvm.hb hby d2_104) rfl k₀) ?_
      show Gm p e below T4 m 105 #[rv r0, iv p1, lv q2, .second, lv q3, .second, iv p4] [(.long q2), (.ref r0)] _
      have f5 := (E_r0.wr W4)
      have f6 := (Fld.other W4 F_remaining (Or.inr (slot_ne (Or.inr (hw _ (List.mem_of_getElem? (i := 17) rfl))) (Or.inr (hw _ (List.mem_of_getElem? (i := 15) rfl))) (by decide) (t := .long) (t' := .boolean) (by decide) (by decide))))
      obtain ⟨T7, h7, X7, e7, W7, st7⟩ := putF X4 hx hZ hown (host := "") (Or.inl (hw _ (List.mem_of_getElem? (i := 16) rfl))) Via.refl e4 f6 f5 (Or.inr ⟨(hw _ (List.mem_of_getElem? (i := 17) rfl)), rfl, hnm⟩) (hw _ (List.mem_of_getElem? (i := 6) rfl)) (ty := .long) (by decide) rfl rfl (g := (mkF m 105 #[rv r0, iv p1, lv q2, .second, lv q3, .second, iv p4] [(.long q2), (.ref r0)])) rfl rfl (Jvm.hb hby d2_105)
      have Fw7 := Fld.same W7 f6
      have N7 := Fr.snoc X7 N4 g_r0
      have Z7 : n0 ≤ h7.size := W7.size ▸ Z4
      have K7 : Keep h0 h7 [r0] := Keep.wr K4 W7 (Or.inl (List.mem_of_getElem? (i := 0) rfl))
      refine own_go st7 ?_
      show Gm p e below T7 m 108 #[rv r0, iv p1, lv q2, .second, lv q3, .second, iv p4] [] _
      refine own_go (fun t₀ k₀ => XS.aloadN X7.here hx rfl (Jvm.hb hby d2_108) rfl rfl k₀) ?_
      show Gm p e below T7 m 109 #[rv r0, iv p1, lv q2, .second, lv q3, .second, iv p4] [(.ref r0)] _
      refine own_go (fun t₀ k₀ => XS.lload X7.here hx rfl (Jvm.hb hby d2_109) rfl k₀) ?_
      show Gm p e below T7 m 111 #[rv r0, iv p1, lv q2, .second, lv q3, .second, iv p4] [(.long q3), (.ref r0)] _
      have f8 := (f5.wr W7)
      have f9 := (Fld.other W7 (Fld.other W4 F_waitMillis (Or.inr (slot_ne (Or.inr (hw _ (List.mem_of_getElem? (i := 19) rfl))) (Or.inr (hw _ (List.mem_of_getElem? (i := 15) rfl))) (by decide) (t := .long) (t' := .boolean) (by decide) (by decide)))) (Or.inr (slot_ne (Or.inr (hw _ (List.mem_of_getElem? (i := 19) rfl))) (Or.inr (hw _ (List.mem_of_getElem? (i := 17) rfl))) (by decide) (t := .long) (t' := .long) (by decide) (by decide))))
      obtain ⟨T10, h10, X10, e10, W10, st10⟩ := putF X7 hx hZ hown (host := "") (Or.inl (hw _ (List.mem_of_getElem? (i := 18) rfl))) Via.refl e7 f9 f8 (Or.inr ⟨(hw _ (List.mem_of_getElem? (i := 19) rfl)), rfl, hnm⟩) (hw _ (List.mem_of_getElem? (i := 6) rfl)) (ty := .long) (by decide) rfl rfl (g := (mkF m 111 #[rv r0, iv p1, lv q2, .second, lv q3, .second, iv p4] [(.long q3), (.ref r0)])) rfl rfl (Jvm.hb hby d2_111)
      have Fw10 := Fld.same W10 f9
      have N10 := Fr.snoc X10 N7 g_r0
      have Z10 : n0 ≤ h10.size := W10.size ▸ Z7
      have K10 : Keep h0 h10 [r0] := Keep.wr K7 W10 (Or.inl (List.mem_of_getElem? (i := 0) rfl))
      refine own_go st10 ?_
      show Gm p e below T10 m 114 #[rv r0, iv p1, lv q2, .second, lv q3, .second, iv p4] [] _
      refine own_go (fun t₀ k₀ => XS.aloadN X10.here hx rfl (Jvm.hb hby d2_114) rfl rfl k₀) ?_
      show Gm p e below T10 m 115 #[rv r0, iv p1, lv q2, .second, lv q3, .second, iv p4] [(.ref r0)] _
      refine own_go (fun t₀ k₀ => XS.iload X10.here hx rfl (Jvm.hb hby d2_115) rfl k₀) ?_
      show Gm p e below T10 m 117 #[rv r0, iv p1, lv q2, .second, lv q3, .second, iv p4] [(.int p4), (.ref r0)] _
      have f11 := (f8.wr W10)
      have f12 := (Fld.other W10 (Fld.other W7 (Fld.other W4 F_fallback (Or.inr (slot_ne (Or.inr (hw _ (List.mem_of_getElem? (i := 21) rfl))) (Or.inr (hw _ (List.mem_of_getElem? (i := 15) rfl))) (by decide) (t := .boolean) (t' := .boolean) (by decide) (by decide)))) (Or.inr (slot_ne (Or.inr (hw _ (List.mem_of_getElem? (i := 21) rfl))) (Or.inr (hw _ (List.mem_of_getElem? (i := 17) rfl))) (by decide) (t := .boolean) (t' := .long) (by decide) (by decide)))) (Or.inr (slot_ne (Or.inr (hw _ (List.mem_of_getElem? (i := 21) rfl))) (Or.inr (hw _ (List.mem_of_getElem? (i := 19) rfl))) (by decide) (t := .boolean) (t' := .long) (by decide) (by decide))))
      obtain ⟨T13, h13, X13, e13, W13, st13⟩ := putFN X10 hx hZ hown (hw _ (List.mem_of_getElem? (i := 20) rfl)) Via.refl e10 f12 f11 (Or.inr ⟨(hw _ (List.mem_of_getElem? (i := 21) rfl)), rfl, hnm⟩) (hw _ (List.mem_of_getElem? (i := 6) rfl)) (ty := .boolean) (v' := (.int p4)) (by decide) (by rcases b4 with q | q <;> rw [q] <;> rfl) (by rcases b4 with q | q <;> rw [q] <;> rfl) (g := (mkF m 117 #[rv r0, iv p1, lv q2, .second, lv q3, .second, iv p4] [(.int p4), (.ref r0)])) rfl rfl (Jvm.hb hby d2_117)
      have Fw13 := Fld.same W13 f12
      have N13 := Fr.snoc X13 N10 g_r0
      have Z13 : n0 ≤ h13.size := W13.size ▸ Z10
      have K13 : Keep h0 h13 [r0] := Keep.wr K10 W13 (Or.inl (List.mem_of_getElem? (i := 0) rfl))
      refine own_go st13 ?_
      show Gm p e below T13 m 120 #[rv r0, iv p1, lv q2, .second, lv q3, .second, iv p4] [] _
      have f14 := (f11.wr W13)
      have f15 := (Fld.other W13 (Fld.other W10 (Fld.other W7 Fw4 (Or.inr (slot_ne (Or.inr (hw _ (List.mem_of_getElem? (i := 15) rfl))) (Or.inr (hw _ (List.mem_of_getElem? (i := 17) rfl))) (by decide) (t := .boolean) (t' := .long) (by decide) (by decide)))) (Or.inr (slot_ne (Or.inr (hw _ (List.mem_of_getElem? (i := 15) rfl))) (Or.inr (hw _ (List.mem_of_getElem? (i := 19) rfl))) (by decide) (t := .boolean) (t' := .long) (by decide) (by decide)))) (Or.inr (slot_ne (Or.inr (hw _ (List.mem_of_getElem? (i := 15) rfl))) (Or.inr (hw _ (List.mem_of_getElem? (i := 21) rfl))) (by decide) (t := .boolean) (t' := .boolean) (by decide) (by decide))))
      have f16 := (Fld.other W13 (Fld.other W10 Fw7 (Or.inr (slot_ne (Or.inr (hw _ (List.mem_of_getElem? (i := 17) rfl))) (Or.inr (hw _ (List.mem_of_getElem? (i := 19) rfl))) (by decide) (t := .long) (t' := .long) (by decide) (by decide)))) (Or.inr (slot_ne (Or.inr (hw _ (List.mem_of_getElem? (i := 17) rfl))) (Or.inr (hw _ (List.mem_of_getElem? (i := 21) rfl))) (by decide) (t := .long) (t' := .boolean) (by decide) (by decide))))
      have f17 := (Fld.other W13 Fw10 (Or.inr (slot_ne (Or.inr (hw _ (List.mem_of_getElem? (i := 19) rfl))) (Or.inr (hw _ (List.mem_of_getElem? (i := 21) rfl))) (by decide) (t := .long) (t' := .boolean) (by decide) (by decide))))
      exact own_retV X13 hx hlk Bd.returns (Jvm.hb hby d2_120) e13 ⟨rfl, N13, K13, f14, f15, f16, f17, Fw13⟩ (by decide) (by decide)
    · have hfork := trivial
      refine own_go (fun t₀ k₀ => XS.ifYes X1.here hx rfl (pc0 := 78) (pc' := 98) rfl (Jvm.hb hby d2_78) rfl (XT.i0_ne_t c3) (by decide) (by decide) k₀) ?_
      show Gm p e below T1 m 98 #[rv r0, iv p1, lv q2, .second, lv q3, .second, iv p4] [] _
      refine own_go (fun t₀ k₀ => XS.aloadN X1.here hx rfl (Jvm.hb hby d2_98) rfl rfl k₀) ?_
      show Gm p e below T1 m 99 #[rv r0, iv p1, lv q2, .second, lv q3, .second, iv p4] [(.ref r0)] _
      refine own_go (fun t₀ k₀ => XS.iloadN X1.here hx rfl (Jvm.hb hby d2_99) rfl k₀) ?_
      show Gm p e below T1 m 100 #[rv r0, iv p1, lv q2, .second, lv q3, .second, iv p4] [(.int p1), (.ref r0)] _
      obtain ⟨T18, h18, X18, e18, W18, st18⟩ := putFN X1 hx hZ hown (hw _ (List.mem_of_getElem? (i := 14) rfl)) Via.refl e1 F_allowed E_r0 (Or.inr ⟨(hw _ (List.mem_of_getElem? (i := 15) rfl)), rfl, hnm⟩) (hw _ (List.mem_of_getElem? (i := 6) rfl)) (ty := .boolean) (v' := (.int p1)) (by decide) (by rcases b1 with q | q <;> rw [q] <;> rfl) (by rcases b1 with q | q <;> rw [q] <;> rfl) (g := (mkF m 100 #[rv r0, iv p1, lv q2, .second, lv q3, .second, iv p4] [(.int p1), (.ref r0)])) rfl rfl (Jvm.hb hby d2_100)
      have Fw18 := Fld.same W18 F_allowed
      have N18 := Fr.snoc X18 N0 g_r0
      have Z18 : n0 ≤ h18.size := W18.size ▸ Z0
      have K18 : Keep h0 h18 [r0] := Keep.wr (Keep.refl h0 [r0]) W18 (Or.inl (List.mem_of_getElem? (i := 0) rfl))
      refine own_go st18 ?_
      show Gm p e below T18 m 103 #[rv r0, iv p1, lv q2, .second, lv q3, .second, iv p4] [] _
      refine own_go (fun t₀ k₀ => XS.aloadN X18.here hx rfl (Jvm.hb hby d2_103) rfl rfl k₀) ?_
      show Gm p e below T18 m 104 #[rv r0, iv p1, lv q2, .second, lv q3, .second, iv p4] [(.ref r0)] _
      refine own_go (fun t₀ k₀ => XS.lloadN X18.here hx rfl (Jvm.hb hby d2_104) rfl k₀) ?_
      show Gm p e below T18 m 105 #[rv r0, iv p1, lv q2, .second, lv q3, .second, iv p4] [(.long q2), (.ref r0)] _
      have f19 := (E_r0.wr W18)
      have f20 := (Fld.other W18 F_remaining (Or.inr (slot_ne (Or.inr (hw _ (List.mem_of_getElem? (i := 17) rfl))) (Or.inr (hw _ (List.mem_of_getElem? (i := 15) rfl))) (by decide) (t := .long) (t' := .boolean) (by decide) (by decide))))
      obtain ⟨T21, h21, X21, e21, W21, st21⟩ := putF X18 hx hZ hown (host := "") (Or.inl (hw _ (List.mem_of_getElem? (i := 16) rfl))) Via.refl e18 f20 f19 (Or.inr ⟨(hw _ (List.mem_of_getElem? (i := 17) rfl)), rfl, hnm⟩) (hw _ (List.mem_of_getElem? (i := 6) rfl)) (ty := .long) (by decide) rfl rfl (g := (mkF m 105 #[rv r0, iv p1, lv q2, .second, lv q3, .second, iv p4] [(.long q2), (.ref r0)])) rfl rfl (Jvm.hb hby d2_105)
      have Fw21 := Fld.same W21 f20
      have N21 := Fr.snoc X21 N18 g_r0
      have Z21 : n0 ≤ h21.size := W21.size ▸ Z18
      have K21 : Keep h0 h21 [r0] := Keep.wr K18 W21 (Or.inl (List.mem_of_getElem? (i := 0) rfl))
      refine own_go st21 ?_
      show Gm p e below T21 m 108 #[rv r0, iv p1, lv q2, .second, lv q3, .second, iv p4] [] _
      refine own_go (fun t₀ k₀ => XS.aloadN X21.here hx rfl (Jvm.hb hby d2_108) rfl rfl k₀) ?_
      show Gm p e below T21 m 109 #[rv r0, iv p1, lv q2, .second, lv q3, .second, iv p4] [(.ref r0)] _
      refine own_go (fun t₀ k₀ => XS.lload X21.here hx rfl (Jvm.hb hby d2_109) rfl k₀) ?_
      show Gm p e below T21 m 111 #[rv r0, iv p1, lv q2, .second, lv q3, .second, iv p4] [(.long q3), (.ref r0)] _
      have f22 := (f19.wr W21)
      have f23 := (Fld.other W21 (Fld.other W18 F_waitMillis (Or.inr (slot_ne (Or.inr (hw _ (List.mem_of_getElem? (i := 19) rfl))) (Or.inr (hw _ (List.mem_of_getElem? (i := 15) rfl))) (by decide) (t := .long) (t' := .boolean) (by decide) (by decide)))) (Or.inr (slot_ne (Or.inr (hw _ (List.mem_of_getElem? (i := 19) rfl))) (Or.inr (hw _ (List.mem_of_getElem? (i := 17) rfl))) (by decide) (t := .long) (t' := .long) (by decide) (by decide))))
      obtain ⟨T24, h24, X24, e24, W24, st24⟩ := putF X21 hx hZ hown (host := "") (Or.inl (hw _ (List.mem_of_getElem? (i := 18) rfl))) Via.refl e21 f23 f22 (Or.inr ⟨(hw _ (List.mem_of_getElem? (i := 19) rfl)), rfl, hnm⟩) (hw _ (List.mem_of_getElem? (i := 6) rfl)) (ty := .long) (by decide) rfl rfl (g := (mkF m 111 #[rv r0, iv p1, lv q2, .second, lv q3, .second, iv p4] [(.long q3), (.ref r0)])) rfl rfl (Jvm.hb hby d2_111)
      have Fw24 := Fld.same W24 f23
      have N24 := Fr.snoc X24 N21 g_r0
      have Z24 : n0 ≤ h24.size := W24.size ▸ Z21
      have K24 : Keep h0 h24 [r0] := Keep.wr K21 W24 (Or.inl (List.mem_of_getElem? (i := 0) rfl))
      refine own_go st24 ?_
      show Gm p e below T24 m 114 #[rv r0, iv p1, lv q2, .second, lv q3, .second, iv p4] [] _
      refine own_go (fun t₀ k₀ => XS.aloadN X24.here hx rfl (Jvm.hb hby d2_114) rfl rfl k₀) ?_
      show Gm p e below T24 m 115 #[rv r0, iv p1, lv q2, .second, lv q3, .second, iv p4] [(.ref r0)] _
      refine own_go (fun t₀ k₀ => XS.iload X24.here hx rfl (Jvm.hb hby d2_115) rfl k₀) ?_
      show Gm p e below T24 m 117 #[rv r0, iv p1, lv q2, .second, lv q3, .second, iv p4] [(.int p4), (.ref r0)] _
      have f25 := (f22.wr W24)
      have f26 := (Fld.other W24 (Fld.other W21 (Fld.other W18 F_fallback (Or.inr (slot_ne (Or.inr (hw _ (List.mem_of_getElem? (i := 21) rfl))) (Or.inr (hw _ (List.mem_of_getElem? (i := 15) rfl))) (by decide) (t := .boolean) (t' := .boolean) (by decide) (by decide)))) (Or.inr (slot_ne (Or.inr (hw _ (List.mem_of_getElem? (i := 21) rfl))) (Or.inr (hw _ (List.mem_of_getElem? (i := 17) rfl))) (by decide) (t := .boolean) (t' := .long) (by decide) (by decide)))) (Or.inr (slot_ne (Or.inr (hw _ (List.mem_of_getElem? (i := 21) rfl))) (Or.inr (hw _ (List.mem_of_getElem? (i := 19) rfl))) (by decide) (t := .boolean) (t' := .long) (by decide) (by decide))))
      obtain ⟨T27, h27, X27, e27, W27, st27⟩ := putFN X24 hx hZ hown (hw _ (List.mem_of_getElem? (i := 20) rfl)) Via.refl e24 f26 f25 (Or.inr ⟨(hw _ (List.mem_of_getElem? (i := 21) rfl)), rfl, hnm⟩) (hw _ (List.mem_of_getElem? (i := 6) rfl)) (ty := .boolean) (v' := (.int p4)) (by decide) (by rcases b4 with q | q <;> rw [q] <;> rfl) (by rcases b4 with q | q <;> rw [q] <;> rfl) (g := (mkF m 117 #[rv r0, iv p1, lv q2, .second, lv q3, .second, iv p4] [(.int p4), (.ref r0)])) rfl rfl (Jvm.hb hby d2_117)
      have Fw27 := Fld.same W27 f26
      have N27 := Fr.snoc X27 N24 g_r0
      have Z27 : n0 ≤ h27.size := W27.size ▸ Z24
      have K27 : Keep h0 h27 [r0] := Keep.wr K24 W27 (Or.inl (List.mem_of_getElem? (i := 0) rfl))
      refine own_go st27 ?_
      show Gm p e below T27 m 120 #[rv r0, iv p1, lv q2, .second, lv q3, .second, iv p4] [] _
      have f28 := (f25.wr W27)
      have f29 := (Fld.other W27 (Fld.other W24 (Fld.other W21 Fw18 (Or.inr (slot_ne (Or.inr (hw _ (List.mem_of_getElem? (i := 15) rfl))) (Or.inr (hw _ (List.mem_of_getElem? (i := 17) rfl))) (by decide) (t := .boolean) (t' := .long) (by decide) (by decide)))) (Or.inr (slot_ne (Or.inr (hw _ (List.mem_of_getElem? (i := 15) rfl))) (Or.inr (hw _ (List.mem_of_getElem? (i := 19) rfl))) (by decide) (t := .boolean) (t' := .long) (by decide) (by decide)))) (Or.inr (slot_ne (Or.inr (hw _ (List.mem_of_getElem? (i := 15) rfl))) (Or.inr (hw _ (List.mem_of_getElem? (i := 21) rfl))) (by decide) (t := .boolean) (t' := .boolean) (by decide) (by decide))))
      have f30 := (Fld.other W27 (Fld.other W24 Fw21 (Or.inr (slot_ne (Or.inr (hw _ (List.mem_of_getElem? (i := 17) rfl))) (Or.inr (hw _ (List.mem_of_getElem? (i := 19) rfl))) (by decide) (t := .long) (t' := .long) (by decide) (by decide)))) (Or.inr (slot_ne (Or.inr (hw _ (List.mem_of_getElem? (i := 17) rfl))) (Or.inr (hw _ (List.mem_of_getElem? (i := 21) rfl))) (by decide) (t := .long) (t' := .boolean) (by decide) (by decide))))
      have f31 := (Fld.other W27 Fw24 (Or.inr (slot_ne (Or.inr (hw _ (List.mem_of_getElem? (i := 19) rfl))) (Or.inr (hw _ (List.mem_of_getElem? (i := 21) rfl))) (by decide) (t := .long) (t' := .boolean) (by decide) (by decide))))
      exact own_retV X27 hx hlk Bd.returns (Jvm.hb hby d2_120) e27 ⟨rfl, N27, K27, f28, f29, f30, f31, Fw27⟩ (by decide) (by decide)
  · have hfork := trivial
    refine own_go (fun t₀ k₀ => XS.ifNo X1.here hx rfl (Jvm.hb hby d2_47) rfl (XT.i0_eq_f c2) k₀) ?_
    show Gm p e below T1 m 50 #[rv r0, iv p1, lv q2, .second, lv q3, .second, iv p4] [] _
    refine own_go (fun t₀ k₀ => XS.lload X1.here hx rfl (Jvm.hb hby d2_50) rfl k₀) ?_
    show Gm p e below T1 m 52 #[rv r0, iv p1, lv q2, .second, lv q3, .second, iv p4] [(.long q3)] _
    refine own_go (fun t₀ k₀ => XS.lconst X1.here hx rfl (Jvm.hb hby d2_52) k₀) ?_
    show Gm p e below T1 m 53 #[rv r0, iv p1, lv q2, .second, lv q3, .second, iv p4] [(.long (0 : Int64)), (.long q3)] _
    refine own_go (fun t₀ k₀ => XT.lcmp X1.here hx rfl (Jvm.hb hby d2_53) rfl k₀) ?_
    show Gm p e below T1 m 54 #[rv r0, iv p1, lv q2, .second, lv q3, .second, iv p4] [(.int (XT.cmpL q3 (0 : Int64)))] _
    refine own_go (fun t₀ k₀ => XS.ifYes X1.here hx rfl (pc0 := 54) (pc' := 72) rfl (Jvm.hb hby d2_54) rfl (XT.ll_eq_t (hA c2)) (by decide) (by decide) k₀) ?_
    show Gm p e below T1 m 72 #[rv r0, iv p1, lv q2, .second, lv q3, .second, iv p4] [] _
    refine own_go (fun t₀ k₀ => XS.iloadN X1.here hx rfl (Jvm.hb hby d2_72) rfl k₀) ?_
    show Gm p e below T1 m 73 #[rv r0, iv p1, lv q2, .second, lv q3, .second, iv p4] [(.int p1)] _
    refine own_go (fun t₀ k₀ => XS.ifYes X1.here hx rfl (pc0 := 73) (pc' := 98) rfl (Jvm.hb hby d2_73) rfl (XT.i0_ne_t c2) (by decide) (by decide) k₀) ?_
    show Gm p e below T1 m 98 #[rv r0, iv p1, lv q2, .second, lv q3, .second, iv p4] [] _
    refine own_go (fun t₀ k₀ => XS.aloadN X1.here hx rfl (Jvm.hb hby d2_98) rfl rfl k₀) ?_
    show Gm p e below T1 m 99 #[rv r0, iv p1, lv q2, .second, lv q3, .second, iv p4] [(.ref r0)] _
    refine own_go (fun t₀ k₀ => XS.iloadN X1.here hx rfl (Jvm.hb hby d2_99) rfl k₀) ?_
    show Gm p e below T1 m 100 #[rv r0, iv p1, lv q2, .second, lv q3, .second, iv p4] [(.int p1), (.ref r0)] _
    obtain ⟨T32, h32, X32, e32, W32, st32⟩ := putFN X1 hx hZ hown (hw _ (List.mem_of_getElem? (i := 14) rfl)) Via.refl e1 F_allowed E_r0 (Or.inr ⟨(hw _ (List.mem_of_getElem? (i := 15) rfl)), rfl, hnm⟩) (hw _ (List.mem_of_getElem? (i := 6) rfl)) (ty := .boolean) (v' := (.int p1)) (by decide) (by rcases b1 with q | q <;> rw [q] <;> rfl) (by rcases b1 with q | q <;> rw [q] <;> rfl) (g := (mkF m 100 #[rv r0, iv p1, lv q2, .second, lv q3, .second, iv p4] [(.int p1), (.ref r0)])) rfl rfl (Jvm.hb hby d2_100)
    have Fw32 := Fld.same W32 F_allowed
    have N32 := Fr.snoc X32 N0 g_r0
    have Z32 : n0 ≤ h32.size := W32.size ▸ Z0
    have K32 : Keep h0 h32 [r0] := Keep.wr (Keep.refl h0 [r0]) W32 (Or.inl (List.mem_of_getElem? (i := 0) rfl))
    refine own_go st32 ?_
    show Gm p e below T32 m 103 #[rv r0, iv p1, lv q2, .second, lv q3, .second, iv p4] [] _
    refine own_go (fun t₀ k₀ => XS.aloadN X32.here hx rfl (Jvm.hb hby d2_103) rfl rfl k₀) ?_
    show Gm p e below T32 m 104 #[rv r0, iv p1, lv q2, .second, lv q3, .second, iv p4] [(.ref r0)] _
    refine own_go (fun t₀ k₀ => XS.lloadN X32.here hx rfl (Jvm.hb hby d2_104) rfl k₀) ?_
    show Gm p e below T32 m 105 #[rv r0, iv p1, lv q2, .second, lv q3, .second, iv p4] [(.long q2), (.ref r0)] _
    have f33 := (E_r0.wr W32)
    have f34 := (Fld.other W32 F_remaining (Or.inr (slot_ne (Or.inr (hw _ (List.mem_of_getElem? (i := 17) rfl))) (Or.inr (hw _ (List.mem_of_getElem? (i := 15) rfl))) (by decide) (t := .long) (t' := .boolean) (by decide) (by decide))))
    obtain ⟨T35, h35, X35, e35, W35, st35⟩ := putF X32 hx hZ hown (host := "") (Or.inl (hw _ (List.mem_of_getElem? (i := 16) rfl))) Via.refl e32 f34 f33 (Or.inr ⟨(hw _ (List.mem_of_getElem? (i := 17) rfl)), rfl, hnm⟩) (hw _ (List.mem_of_getElem? (i := 6) rfl)) (ty := .long) (by decide) rfl rfl (g := (mkF m 105 #[rv r0, iv p1, lv q2, .second, lv q3, .second, iv p4] [(.long q2), (.ref r0)])) rfl rfl (Jvm.hb hby d2_105)
    have Fw35 := Fld.same W35 f34
    have N35 := Fr.snoc X35 N32 g_r0
    have Z35 : n0 ≤ h35.size := W35.size ▸ Z32
    have K35 : Keep h0 h35 [r0] := Keep.wr K32 W35 (Or.inl (List.mem_of_getElem? (i := 0) rfl))
    refine own_go st35 ?_
    show Gm p e below T35 m 108 #[rv r0, iv p1, lv q2, .second, lv q3, .second, iv p4] [] _
    refine own_go (fun t₀ k₀ => XS.aloadN X35.here hx rfl (Jvm.hb hby d2_108) rfl rfl k₀) ?_
    show Gm p e below T35 m 109 #[rv r0, iv p1, lv q2, .second, lv q3, .second, iv p4] [(.ref r0)] _
    refine own_go (fun t₀ k₀ => XS.lload X35.here hx rfl (Jvm.hb hby d2_109) rfl k₀) ?_
    show Gm p e below T35 m 111 #[rv r0, iv p1, lv q2, .second, lv q3, .second, iv p4] [(.long q3), (.ref r0)] _
    have f36 := (f33.wr W35)
    have f37 := (Fld.other W35 (Fld.other W32 F_waitMillis (Or.inr (slot_ne (Or.inr (hw _ (List.mem_of_getElem? (i := 19) rfl))) (Or.inr (hw _ (List.mem_of_getElem? (i := 15) rfl))) (by decide) (t := .long) (t' := .boolean) (by decide) (by decide)))) (Or.inr (slot_ne (Or.inr (hw _ (List.mem_of_getElem? (i := 19) rfl))) (Or.inr (hw _ (List.mem_of_getElem? (i := 17) rfl))) (by decide) (t := .long) (t' := .long) (by decide) (by decide))))
    obtain ⟨T38, h38, X38, e38, W38, st38⟩ := putF X35 hx hZ hown (host := "") (Or.inl (hw _ (List.mem_of_getElem? (i := 18) rfl))) Via.refl e35 f37 f36 (Or.inr ⟨(hw _ (List.mem_of_getElem? (i := 19) rfl)), rfl, hnm⟩) (hw _ (List.mem_of_getElem? (i := 6) rfl)) (ty := .long) (by decide) rfl rfl (g := (mkF m 111 #[rv r0, iv p1, lv q2, .second, lv q3, .second, iv p4] [(.long q3), (.ref r0)])) rfl rfl (Jvm.hb hby d2_111)
    have Fw38 := Fld.same W38 f37
    have N38 := Fr.snoc X38 N35 g_r0
    have Z38 : n0 ≤ h38.size := W38.size ▸ Z35
    have K38 : Keep h0 h38 [r0] := Keep.wr K35 W38 (Or.inl (List.mem_of_getElem? (i := 0) rfl))
    refine own_go st38 ?_
    show Gm p e below T38 m 114 #[rv r0, iv p1, lv q2, .second, lv q3, .second, iv p4] [] _
    refine own_go (fun t₀ k₀ => XS.aloadN X38.here hx rfl (Jvm.hb hby d2_114) rfl rfl k₀) ?_
    show Gm p e below T38 m 115 #[rv r0, iv p1, lv q2, .second, lv q3, .second, iv p4] [(.ref r0)] _
    refine own_go (fun t₀ k₀ => XS.iload X38.here hx rfl (Jvm.hb hby d2_115) rfl k₀) ?_
    show Gm p e below T38 m 117 #[rv r0, iv p1, lv q2, .second, lv q3, .second, iv p4] [(.int p4), (.ref r0)] _
    have f39 := (f36.wr W38)
    have f40 := (Fld.other W38 (Fld.other W35 (Fld.other W32 F_fallback (Or.inr (slot_ne (Or.inr (hw _ (List.mem_of_getElem? (i := 21) rfl))) (Or.inr (hw _ (List.mem_of_getElem? (i := 15) rfl))) (by decide) (t := .boolean) (t' := .boolean) (by decide) (by decide)))) (Or.inr (slot_ne (Or.inr (hw _ (List.mem_of_getElem? (i := 21) rfl))) (Or.inr (hw _ (List.mem_of_getElem? (i := 17) rfl))) (by decide) (t := .boolean) (t' := .long) (by decide) (by decide)))) (Or.inr (slot_ne (Or.inr (hw _ (List.mem_of_getElem? (i := 21) rfl))) (Or.inr (hw _ (List.mem_of_getElem? (i := 19) rfl))) (by decide) (t := .boolean) (t' := .long) (by decide) (by decide))))
    obtain ⟨T41, h41, X41, e41, W41, st41⟩ := putFN X38 hx hZ hown (hw _ (List.mem_of_getElem? (i := 20) rfl)) Via.refl e38 f40 f39 (Or.inr ⟨(hw _ (List.mem_of_getElem? (i := 21) rfl)), rfl, hnm⟩) (hw _ (List.mem_of_getElem? (i := 6) rfl)) (ty := .boolean) (v' := (.int p4)) (by decide) (by rcases b4 with q | q <;> rw [q] <;> rfl) (by rcases b4 with q | q <;> rw [q] <;> rfl) (g := (mkF m 117 #[rv r0, iv p1, lv q2, .second, lv q3, .second, iv p4] [(.int p4), (.ref r0)])) rfl rfl (Jvm.hb hby d2_117)
    have Fw41 := Fld.same W41 f40
    have N41 := Fr.snoc X41 N38 g_r0
    have Z41 : n0 ≤ h41.size := W41.size ▸ Z38
    have K41 : Keep h0 h41 [r0] := Keep.wr K38 W41 (Or.inl (List.mem_of_getElem? (i := 0) rfl))
    refine own_go st41 ?_
    show Gm p e below T41 m 120 #[rv r0, iv p1, lv q2, .second, lv q3, .second, iv p4] [] _
    have f42 := (f39.wr W41)
    have f43 := (Fld.other W41 (Fld.other W38 (Fld.other W35 Fw32 (Or.inr (slot_ne (Or.inr (hw _ (List.mem_of_getElem? (i := 15) rfl))) (Or.inr (hw _ (List.mem_of_getElem? (i := 17) rfl))) (by decide) (t := .boolean) (t' := .long) (by decide) (by decide)))) (Or.inr (slot_ne (Or.inr (hw _ (List.mem_of_getElem? (i := 15) rfl))) (Or.inr (hw _ (List.mem_of_getElem? (i := 19) rfl))) (by decide) (t := .boolean) (t' := .long) (by decide) (by decide)))) (Or.inr (slot_ne (Or.inr (hw _ (List.mem_of_getElem? (i := 15) rfl))) (Or.inr (hw _ (List.mem_of_getElem? (i := 21) rfl))) (by decide) (t := .boolean) (t' := .boolean) (by decide) (by decide))))
    have f44 := (Fld.other W41 (Fld.other W38 Fw35 (Or.inr (slot_ne (Or.inr (hw _ (List.mem_of_getElem? (i := 17) rfl))) (Or.inr (hw _ (List.mem_of_getElem? (i := 19) rfl))) (by decide) (t := .long) (t' := .long) (by decide) (by decide)))) (Or.inr (slot_ne (Or.inr (hw _ (List.mem_of_getElem? (i := 17) rfl))) (Or.inr (hw _ (List.mem_of_getElem? (i := 21) rfl))) (by decide) (t := .long) (t' := .boolean) (by decide) (by decide))))
    have f45 := (Fld.other W41 Fw38 (Or.inr (slot_ne (Or.inr (hw _ (List.mem_of_getElem? (i := 19) rfl))) (Or.inr (hw _ (List.mem_of_getElem? (i := 21) rfl))) (by decide) (t := .long) (t' := .boolean) (by decide) (by decide))))
    exact own_retV X41 hx hlk Bd.returns (Jvm.hb hby d2_120) e41 ⟨rfl, N41, K41, f42, f43, f44, f45, Fw41⟩ (by decide) (by decide)
theorem d4_0 : decode prog_12_method_8_code 0 = .ok (.aload_n 1, 1) := by decide +kernel
theorem d4_1 : decode prog_12_method_8_code 1 = .ok (.instanceof 21, 3) := by decide +kernel
theorem d4_4 : decode prog_12_method_8_code 4 = .ok (.ifCond .eq 58, 3) := by decide +kernel
theorem d4_7 : decode prog_12_method_8_code 7 = .ok (.aload_n 1, 1) := by decide +kernel
theorem d4_8 : decode prog_12_method_8_code 8 = .ok (.checkcast 21, 3) := by decide +kernel
theorem d4_11 : decode prog_12_method_8_code 11 = .ok (.astore_n 2, 1) := by decide +kernel
theorem d4_12 : decode prog_12_method_8_code 12 = .ok (.aload_n 0, 1) := by decide +kernel
theorem d4_13 : decode prog_12_method_8_code 13 = .ok (.getfield 20, 3) := by decide +kernel
theorem d4_16 : decode prog_12_method_8_code 16 = .ok (.aload_n 2, 1) := by decide +kernel
theorem d4_17 : decode prog_12_method_8_code 17 = .ok (.getfield 20, 3) := by decide +kernel
theorem d4_20 : decode prog_12_method_8_code 20 = .ok (.if_icmp .ne 42, 3) := by decide +kernel
theorem d4_23 : decode prog_12_method_8_code 23 = .ok (.aload_n 0, 1) := by decide +kernel
theorem d4_24 : decode prog_12_method_8_code 24 = .ok (.getfield 26, 3) := by decide +kernel
theorem d4_27 : decode prog_12_method_8_code 27 = .ok (.aload_n 2, 1) := by decide +kernel
theorem d4_28 : decode prog_12_method_8_code 28 = .ok (.getfield 26, 3) := by decide +kernel
theorem d4_31 : decode prog_12_method_8_code 31 = .ok (.lcmp, 1) := by decide +kernel
theorem d4_32 : decode prog_12_method_8_code 32 = .ok (.ifCond .ne 30, 3) := by decide +kernel
theorem d4_35 : decode prog_12_method_8_code 35 = .ok (.aload_n 0, 1) := by decide +kernel
theorem d4_36 : decode prog_12_method_8_code 36 = .ok (.getfield 30, 3) := by decide +kernel
theorem d4_39 : decode prog_12_method_8_code 39 = .ok (.aload_n 2, 1) := by decide +kernel
theorem d4_40 : decode prog_12_method_8_code 40 = .ok (.getfield 30, 3) := by decide +kernel
theorem d4_43 : decode prog_12_method_8_code 43 = .ok (.lcmp, 1) := by decide +kernel
theorem d4_44 : decode prog_12_method_8_code 44 = .ok (.ifCond .ne 18, 3) := by decide +kernel
theorem d4_47 : decode prog_12_method_8_code 47 = .ok (.aload_n 0, 1) := by decide +kernel
theorem d4_48 : decode prog_12_method_8_code 48 = .ok (.getfield 33, 3) := by decide +kernel
theorem d4_51 : decode prog_12_method_8_code 51 = .ok (.aload_n 2, 1) := by decide +kernel
theorem d4_52 : decode prog_12_method_8_code 52 = .ok (.getfield 33, 3) := by decide +kernel
theorem d4_55 : decode prog_12_method_8_code 55 = .ok (.if_icmp .ne 7, 3) := by decide +kernel
theorem d4_58 : decode prog_12_method_8_code 58 = .ok (.iconst 1, 1) := by decide +kernel
theorem d4_59 : decode prog_12_method_8_code 59 = .ok (.goto 4, 3) := by decide +kernel
theorem d4_62 : decode prog_12_method_8_code 62 = .ok (.iconst 0, 1) := by decide +kernel
theorem d4_63 : decode prog_12_method_8_code 63 = .ok (.ireturn, 1) := by decide +kernel
theorem own_pn_rm4 : plainName "com/example/libbrake/libbrake/Decision" = true := by first | (simp [plainName, overriddenIn]; done) | decide +kernel
theorem own_ef_rm4 (m : MethodId) (r0 : Addr) (r1 : Addr) : entryFrame m #[(.ref r0), (.ref r1)] 3 = mkF m 0 #[.val (.ref r0), .val (.ref r1), .unset] [] := by first | (simp [entryFrame, mkF, argsToLocals, Value.category]; done) | rfl
def fE (va0 : Int32) (vr0 : Int64) (vw0 : Int64) (vf0 : Int32) (va1 : Int32) (vr1 : Int64) (vw1 : Int64) (vf1 : Int32) : Int32 := if va0 = va1 then if vr0 = vr1 then if vw0 = vw1 then if vf0 = vf1 then (1 : Int32) else ((0 : Int32)) else ((0 : Int32)) else ((0 : Int32)) else ((0 : Int32))
def Q4 (Z : State) (r0 : Addr) (r1 : Addr) (va0 : Int32) (vr0 : Int64) (vw0 : Int64) (vf0 : Int32) (va1 : Int32) (vr1 : Int64) (vw1 : Int64) (vf1 : Int32) (h0 : Heap) (n0 : Nat) (v : Option Value) (h : Heap) (L : List Loc) : Prop := v = some (.int (fE va0 vr0 vw0 vf0 va1 vr1 vw1 vf1)) ∧ Fr n0 L ∧ h = h0
set_option maxRecDepth 65536 in
set_option maxHeartbeats 40000000 in
theorem rm4 (l : Launch) (Z : State) (a0 : Array Value) (hw : ∀ d ∈ tables_1, d.before a0 Z = true) (ws : List Jvm.Cond) (r0 : Addr) (r1 : Addr) (va0 : Int32) (vr0 : Int64) (vw0 : Int64) (vf0 : Int32) (va1 : Int32) (vr1 : Int64) (vw1 : Int64) (vf1 : Int32) (h0 : Heap) (n0 : Nat) (Z0 : n0 ≤ h0.size) (E_r1 : Exa Z h0 r1 "com/example/libbrake/libbrake/Decision") (F_allowed_r0 : Fld Z h0 r0 "com/example/libbrake/libbrake/Decision" "allowed" "Z" (.int va0)) (F_remaining_r0 : Fld Z h0 r0 "com/example/libbrake/libbrake/Decision" "remaining" "J" (.long vr0)) (F_waitMillis_r0 : Fld Z h0 r0 "com/example/libbrake/libbrake/Decision" "waitMillis" "J" (.long vw0)) (F_fallback_r0 : Fld Z h0 r0 "com/example/libbrake/libbrake/Decision" "fallback" "Z" (.int vf0)) (F_allowed_r1 : Fld Z h0 r1 "com/example/libbrake/libbrake/Decision" "allowed" "Z" (.int va1)) (F_remaining_r1 : Fld Z h0 r1 "com/example/libbrake/libbrake/Decision" "remaining" "J" (.long vr1)) (F_waitMillis_r1 : Fld Z h0 r1 "com/example/libbrake/libbrake/Decision" "waitMillis" "J" (.long vw1)) (F_fallback_r1 : Fld Z h0 r1 "com/example/libbrake/libbrake/Decision" "fallback" "Z" (.int vf1)) :
    MetFree l (⟨"com/example/libbrake/libbrake/Decision", "equals", "(Ljava/lang/Object;)Z"⟩ : MethodName) (head1 (Jvm.Cond.code (⟨"com/example/libbrake/libbrake/Decision", "equals", "(Ljava/lang/Object;)Z"⟩ : MethodName) prog_12_method_8_code 3 (some .boolean) :: ws) ({ frames := 0, cells := 0, slots := 0, locals := 0 } : Room)) (fun a U => a = #[(.ref r0), (.ref r1)] ∧ Z.Warmed39 U.vm ∧ U.heap = h0) (fun _ _ _ _ _ => True) (fun _ U o U' => ∃ v L, o = .returned v ∧ Q4 Z r0 r1 va0 vr0 vw0 vf0 va1 vr1 vw1 vf1 h0 n0 v U'.heap L ∧ FrameEnd U o U' L ({ frames := 0, cells := 0, slots := 0, locals := 0 } : Room).cells ({ frames := 0, cells := 0, slots := 0, locals := 0 } : Room).slots) := by
  refine MetFree.of_bodySF (plainFor_of_name own_pn_rm4) hisR ?_
  intro p e s m args below meth cO s₁ Bd hml0 hP hK
  obtain ⟨rfl, hZ, hh⟩ := hP
  have hx := Bd.exec
  have hby := Bd.bytes
  have hml : cO.maxLocals = 3 := hml0
  have hown : s.vm.findClass "com/example/libbrake/libbrake/Decision" = some m.cls := findClass_of_methodNamed Bd.named
  have hnm := (name_of_methodNamed Bd.named Bd.method).1
  have hlk : meth.locks = false := BodyLoose.notSynchronized Bd
  have X0 : Stand p l e ({ frames := 0, cells := 0, slots := 0, locals := 0 } : Room) s m #[(.ref r0), (.ref r1)] below meth cO s₁ [] 0 0 := Stand.of_body Bd
  have e0 : s₁.heap = h0 := by rw [← hh, Bd.state]; rfl
  have N0 := Fr.nil n0
  refine own_in (own_ef_rm4 m r0 r1) ?_
  show Gm p e below s₁ m 0 #[rv r0, rv r1, .unset] [] _
  refine own_go (fun t₀ k₀ => XS.aloadN X0.here hx rfl (Jvm.hb hby d4_0) rfl rfl k₀) ?_
  show Gm p e below s₁ m 1 #[rv r0, rv r1, .unset] [(.ref r1)] _
  obtain ⟨T1, X1, e1, st1⟩ := instY X0 hx hZ hown (hw _ (List.mem_of_getElem? (i := 27) rfl)) e0 (Ins.self E_r1) (g := (mkF m 1 #[rv r0, rv r1, .unset] [(.ref r1)])) rfl rfl (Jvm.hb hby d4_1)
  refine own_go st1 ?_
  show Gm p e below T1 m 4 #[rv r0, rv r1, .unset] [(.int (1 : Int32))] _
  refine own_go (fun t₀ k₀ => XS.ifNo X1.here hx rfl (Jvm.hb hby d4_4) rfl (XT.i0_eq_f (by decide)) k₀) ?_
  show Gm p e below T1 m 7 #[rv r0, rv r1, .unset] [] _
  refine own_go (fun t₀ k₀ => XS.aloadN X1.here hx rfl (Jvm.hb hby d4_7) rfl rfl k₀) ?_
  show Gm p e below T1 m 8 #[rv r0, rv r1, .unset] [(.ref r1)] _
  obtain ⟨T2, X2, e2, st2⟩ := castY X1 hx hZ hown (hw _ (List.mem_of_getElem? (i := 27) rfl)) e1 (Ins.self E_r1) (g := (mkF m 8 #[rv r0, rv r1, .unset] [(.ref r1)])) rfl rfl (Jvm.hb hby d4_8)
  refine own_go st2 ?_
  show Gm p e below T2 m 11 #[rv r0, rv r1, .unset] [(.ref r1)] _
  refine own_go (fun t₀ k₀ => XS.astoreN X2.here hx rfl (Jvm.hb hby d4_11) rfl rfl (l' := #[rv r0, rv r1, rv r1]) rfl k₀) ?_
  show Gm p e below T2 m 12 #[rv r0, rv r1, rv r1] [] _
  refine own_go (fun t₀ k₀ => XS.aloadN X2.here hx rfl (Jvm.hb hby d4_12) rfl rfl k₀) ?_
  show Gm p e below T2 m 13 #[rv r0, rv r1, rv r1] [(.ref r0)] _
  obtain ⟨T3, X3, e3, st3⟩ := getF X2 hx hZ hown (host := "") (Or.inl (hw _ (List.mem_of_getElem? (i := 14) rfl))) Via.refl e2 F_allowed_r0 (g := (mkF m 13 #[rv r0, rv r1, rv r1] [(.ref r0)])) rfl rfl (Jvm.hb hby d4_13)
  refine own_go st3 ?_
  show Gm p e below T3 m 16 #[rv r0, rv r1, rv r1] [(.int va0)] _
  refine own_go (fun t₀ k₀ => XS.aloadN X3.here hx rfl (Jvm.hb hby d4_16) rfl rfl k₀) ?_
  show Gm p e below T3 m 17 #[rv r0, rv r1, rv r1] [(.ref r1), (.int va0)] _
  obtain ⟨T4, X4, e4, st4⟩ := getF X3 hx hZ hown (host := "") (Or.inl (hw _ (List.mem_of_getElem? (i := 14) rfl))) Via.refl e3 F_allowed_r1 (g := (mkF m 17 #[rv r0, rv r1, rv r1] [(.ref r1), (.int va0)])) rfl rfl (Jvm.hb hby d4_17)
  refine own_go st4 ?_
  show Gm p e below T4 m 20 #[rv r0, rv r1, rv r1] [(.int va1), (.int va0)] _
  by_cases c5 : va0 = va1
  · have hfork := trivial
    refine own_go (fun t₀ k₀ => XS.icmpNo X4.here hx rfl (Jvm.hb hby d4_20) rfl (XT.ii_ne_f c5) k₀) ?_
    show Gm p e below T4 m 23 #[rv r0, rv r1, rv r1] [] _
    refine own_go (fun t₀ k₀ => XS.aloadN X4.here hx rfl (Jvm.hb hby d4_23) rfl rfl k₀) ?_
    show Gm p e below T4 m 24 #[rv r0, rv r1, rv r1] [(.ref r0)] _
    obtain ⟨T6, X6, e6, st6⟩ := getF X4 hx hZ hown (host := "") (Or.inl (hw _ (List.mem_of_getElem? (i := 16) rfl))) Via.refl e4 F_remaining_r0 (g := (mkF m 24 #[rv r0, rv r1, rv r1] [(.ref r0)])) rfl rfl (Jvm.hb hby d4_24)
    refine own_go st6 ?_
    show Gm p e below T6 m 27 #[rv r0, rv r1, rv r1] [(.long vr0)] _
    refine own_go (fun t₀ k₀ => XS.aloadN X6.here hx rfl (Jvm.hb hby d4_27) rfl rfl k₀) ?_
    show Gm p e below T6 m 28 #[rv r0, rv r1, rv r1] [(.ref r1), (.long vr0)] _
    obtain ⟨T7, X7, e7, st7⟩ := getF X6 hx hZ hown (host := "") (Or.inl (hw _ (List.mem_of_getElem? (i := 16) rfl))) Via.refl e6 F_remaining_r1 (g := (mkF m 28 #[rv r0, rv r1, rv r1] [(.ref r1), (.long vr0)])) rfl rfl (Jvm.hb hby d4_28)
    refine own_go st7 ?_
    show Gm p e below T7 m 31 #[rv r0, rv r1, rv r1] [(.long vr1), (.long vr0)] _
    refine own_go (fun t₀ k₀ => XT.lcmp X7.here hx rfl (Jvm.hb hby d4_31) rfl k₀) ?_
    show Gm p e below T7 m 32 #[rv r0, rv r1, rv r1] [(.int (XT.cmpL vr0 vr1))] _
    by_cases c8 : vr0 = vr1
    · have hfork := trivial
      refine own_go (fun t₀ k₀ => XS.ifNo X7.here hx rfl (Jvm.hb hby d4_32) rfl (XT.ll_ne_f c8) k₀) ?_
      show Gm p e below T7 m 35 #[rv r0, rv r1, rv r1] [] _
      refine own_go (fun t₀ k₀ => XS.aloadN X7.here hx rfl (Jvm.hb hby d4_35) rfl rfl k₀) ?_
      show Gm p e below T7 m 36 #[rv r0, rv r1, rv r1] [(.ref r0)] _
      obtain ⟨T9, X9, e9, st9⟩ := getF X7 hx hZ hown (host := "") (Or.inl (hw _ (List.mem_of_getElem? (i := 18) rfl))) Via.refl e7 F_waitMillis_r0 (g := (mkF m 36 #[rv r0, rv r1, rv r1] [(.ref r0)])) rfl rfl (Jvm.hb hby d4_36)
      refine own_go st9 ?_
      show Gm p e below T9 m 39 #[rv r0, rv r1, rv r1] [(.long vw0)] _
      refine own_go (fun t₀ k₀ => XS.aloadN X9.here hx rfl (Jvm.hb hby d4_39) rfl rfl k₀) ?_
      show Gm p e below T9 m 40 #[rv r0, rv r1, rv r1] [(.ref r1), (.long vw0)] _
      obtain ⟨T10, X10, e10, st10⟩ := getF X9 hx hZ hown (host := "") (Or.inl (hw _ (List.mem_of_getElem? (i := 18) rfl))) Via.refl e9 F_waitMillis_r1 (g := (mkF m 40 #[rv r0, rv r1, rv r1] [(.ref r1), (.long vw0)])) rfl rfl (Jvm.hb hby d4_40)
      refine own_go st10 ?_
      show Gm p e below T10 m 43 #[rv r0, rv r1, rv r1] [(.long vw1), (.long vw0)] _
      refine own_go (fun t₀ k₀ => XT.lcmp X10.here hx rfl (Jvm.hb hby d4_43) rfl k₀) ?_
      show Gm p e below T10 m 44 #[rv r0, rv r1, rv r1] [(.int (XT.cmpL vw0 vw1))] _
      by_cases c11 : vw0 = vw1
      · have hfork := trivial
        refine own_go (fun t₀ k₀ => XS.ifNo X10.here hx rfl (Jvm.hb hby d4_44) rfl (XT.ll_ne_f c11) k₀) ?_
        show Gm p e below T10 m 47 #[rv r0, rv r1, rv r1] [] _
        refine own_go (fun t₀ k₀ => XS.aloadN X10.here hx rfl (Jvm.hb hby d4_47) rfl rfl k₀) ?_
        show Gm p e below T10 m 48 #[rv r0, rv r1, rv r1] [(.ref r0)] _
        obtain ⟨T12, X12, e12, st12⟩ := getF X10 hx hZ hown (host := "") (Or.inl (hw _ (List.mem_of_getElem? (i := 20) rfl))) Via.refl e10 F_fallback_r0 (g := (mkF m 48 #[rv r0, rv r1, rv r1] [(.ref r0)])) rfl rfl (Jvm.hb hby d4_48)
        refine own_go st12 ?_
        show Gm p e below T12 m 51 #[rv r0, rv r1, rv r1] [(.int vf0)] _
        refine own_go (fun t₀ k₀ => XS.aloadN X12.here hx rfl (Jvm.hb hby d4_51) rfl rfl k₀) ?_
        show Gm p e below T12 m 52 #[rv r0, rv r1, rv r1] [(.ref r1), (.int vf0)] _
        obtain ⟨T13, X13, e13, st13⟩ := getF X12 hx hZ hown (host := "") (Or.inl (hw _ (List.mem_of_getElem? (i := 20) rfl))) Via.refl e12 F_fallback_r1 (g := (mkF m 52 #[rv r0, rv r1, rv r1] [(.ref r1), (.int vf0)])) rfl rfl (Jvm.hb hby d4_52)
        refine own_go st13 ?_
        show Gm p e below T13 m 55 #[rv r0, rv r1, rv r1] [(.int vf1), (.int vf0)] _
        by_cases c14 : vf0 = vf1
        · have hfork := trivial
          refine own_go (fun t₀ k₀ => XS.icmpNo X13.here hx rfl (Jvm.hb hby d4_55) rfl (XT.ii_ne_f c14) k₀) ?_
          show Gm p e below T13 m 58 #[rv r0, rv r1, rv r1] [] _
          refine own_go (fun t₀ k₀ => XS.iconst X13.here hx rfl (Jvm.hb hby d4_58) k₀) ?_
          show Gm p e below T13 m 59 #[rv r0, rv r1, rv r1] [(.int (1 : Int32))] _
          refine own_go (fun t₀ k₀ => XS.goto X13.here hx rfl (pc0 := 59) (pc' := 63) rfl (Jvm.hb hby d4_59) (by decide) (by decide) k₀) ?_
          show Gm p e below T13 m 63 #[rv r0, rv r1, rv r1] [(.int (1 : Int32))] _
          exact own_retI X13 hx hlk (t := .boolean) Bd.returns rfl (by simp) (Jvm.hb hby d4_63) e13 ⟨(by unfold fE; rw [if_pos c5, if_pos c8, if_pos c11, if_pos c14]), N0, rfl⟩ (by decide) (by decide)
        · have hfork := trivial
          refine own_go (fun t₀ k₀ => XS.icmpYes X13.here hx rfl (pc0 := 55) (pc' := 62) rfl (Jvm.hb hby d4_55) rfl (XT.ii_ne_t c14) (by decide) (by decide) k₀) ?_
          show Gm p e below T13 m 62 #[rv r0, rv r1, rv r1] [] _
          refine own_go (fun t₀ k₀ => XS.iconst X13.here hx rfl (Jvm.hb hby d4_62) k₀) ?_
          show Gm p e below T13 m 63 #[rv r0, rv r1, rv r1] [(.int (0 : Int32))] _
          exact own_retI X13 hx hlk (t := .boolean) Bd.returns rfl (by simp) (Jvm.hb hby d4_63) e13 ⟨(by unfold fE; rw [if_pos c5, if_pos c8, if_pos c11, if_neg c14]), N0, rfl⟩ (by decide) (by decide)
      · have hfork := trivial
        refine own_go (fun t₀ k₀ => XS.ifYes X10.here hx rfl (pc0 := 44) (pc' := 62) rfl (Jvm.hb hby d4_44) rfl (XT.ll_ne_t c11) (by decide) (by decide) k₀) ?_
        show Gm p e below T10 m 62 #[rv r0, rv r1, rv r1] [] _
        refine own_go (fun t₀ k₀ => XS.iconst X10.here hx rfl (Jvm.hb hby d4_62) k₀) ?_
        show Gm p e below T10 m 63 #[rv r0, rv r1, rv r1] [(.int (0 : Int32))] _
        exact own_retI X10 hx hlk (t := .boolean) Bd.returns rfl (by simp) (Jvm.hb hby d4_63) e10 ⟨(by unfold fE; rw [if_pos c5, if_pos c8, if_neg c11]), N0, rfl⟩ (by decide) (by decide)
    · have hfork := trivial
      refine own_go (fun t₀ k₀ => XS.ifYes X7.here hx rfl (pc0 := 32) (pc' := 62) rfl (Jvm.hb hby d4_32) rfl (XT.ll_ne_t c8) (by decide) (by decide) k₀) ?_
      show Gm p e below T7 m 62 #[rv r0, rv r1, rv r1] [] _
      refine own_go (fun t₀ k₀ => XS.iconst X7.here hx rfl (Jvm.hb hby d4_62) k₀) ?_
      show Gm p e below T7 m 63 #[rv r0, rv r1, rv r1] [(.int (0 : Int32))] _
      exact own_retI X7 hx hlk (t := .boolean) Bd.returns rfl (by simp) (Jvm.hb hby d4_63) e7 ⟨(by unfold fE; rw [if_pos c5, if_neg c8]), N0, rfl⟩ (by decide) (by decide)
  · have hfork := trivial
    refine own_go (fun t₀ k₀ => XS.icmpYes X4.here hx rfl (pc0 := 20) (pc' := 62) rfl (Jvm.hb hby d4_20) rfl (XT.ii_ne_t c5) (by decide) (by decide) k₀) ?_
    show Gm p e below T4 m 62 #[rv r0, rv r1, rv r1] [] _
    refine own_go (fun t₀ k₀ => XS.iconst X4.here hx rfl (Jvm.hb hby d4_62) k₀) ?_
    show Gm p e below T4 m 63 #[rv r0, rv r1, rv r1] [(.int (0 : Int32))] _
    exact own_retI X4 hx hlk (t := .boolean) Bd.returns rfl (by simp) (Jvm.hb hby d4_63) e4 ⟨(by unfold fE; rw [if_neg c5]), N0, rfl⟩ (by decide) (by decide)
theorem own_pn_rm4n : plainName "com/example/libbrake/libbrake/Decision" = true := by first | (simp [plainName, overriddenIn]; done) | decide +kernel
theorem own_ef_rm4n (m : MethodId) (r0 : Addr) : entryFrame m #[(.ref r0), .null] 3 = mkF m 0 #[.val (.ref r0), .val .null, .unset] [] := by first | (simp [entryFrame, mkF, argsToLocals, Value.category]; done) | rfl
def Q4n (Z : State) (r0 : Addr) (h0 : Heap) (n0 : Nat) (v : Option Value) (h : Heap) (L : List Loc) : Prop := v = some (.int 0) ∧ Fr n0 L ∧ h = h0
set_option maxRecDepth 65536 in
set_option maxHeartbeats 40000000 in
theorem rm4n (l : Launch) (Z : State) (a0 : Array Value) (hw : ∀ d ∈ tables_1, d.before a0 Z = true) (ws : List Jvm.Cond) (r0 : Addr) (h0 : Heap) (n0 : Nat) (Z0 : n0 ≤ h0.size) :
    MetFree l (⟨"com/example/libbrake/libbrake/Decision", "equals", "(Ljava/lang/Object;)Z"⟩ : MethodName) (head1 (Jvm.Cond.code (⟨"com/example/libbrake/libbrake/Decision", "equals", "(Ljava/lang/Object;)Z"⟩ : MethodName) prog_12_method_8_code 3 (some .boolean) :: ws) ({ frames := 0, cells := 0, slots := 0, locals := 0 } : Room)) (fun a U => a = #[(.ref r0), .null] ∧ Z.Warmed39 U.vm ∧ U.heap = h0) (fun _ _ _ _ _ => True) (fun _ U o U' => ∃ v L, o = .returned v ∧ Q4n Z r0 h0 n0 v U'.heap L ∧ FrameEnd U o U' L ({ frames := 0, cells := 0, slots := 0, locals := 0 } : Room).cells ({ frames := 0, cells := 0, slots := 0, locals := 0 } : Room).slots) := by
  refine MetFree.of_bodySF (plainFor_of_name own_pn_rm4n) hisR ?_
  intro p e s m args below meth cO s₁ Bd hml0 hP hK
  obtain ⟨rfl, hZ, hh⟩ := hP
  have hx := Bd.exec
  have hby := Bd.bytes
  have hml : cO.maxLocals = 3 := hml0
  have hown : s.vm.findClass "com/example/libbrake/libbrake/Decision" = some m.cls := findClass_of_methodNamed Bd.named
  have hnm := (name_of_methodNamed Bd.named Bd.method).1
  have hlk : meth.locks = false := BodyLoose.notSynchronized Bd
  have X0 : Stand p l e ({ frames := 0, cells := 0, slots := 0, locals := 0 } : Room) s m #[(.ref r0), .null] below meth cO s₁ [] 0 0 := Stand.of_body Bd
  have e0 : s₁.heap = h0 := by rw [← hh, Bd.state]; rfl
  have N0 := Fr.nil n0
  refine own_in (own_ef_rm4n m r0) ?_
  show Gm p e below s₁ m 0 #[rv r0, .val .null, .unset] [] _
  refine own_go (fun t₀ k₀ => XS.aloadN X0.here hx rfl (Jvm.hb hby d4_0) rfl rfl k₀) ?_
  show Gm p e below s₁ m 1 #[rv r0, .val .null, .unset] [.null] _
  refine own_go (fun t₀ k₀ => X0.instanceofNull hx (g := (mkF m 1 #[rv r0, .val .null, .unset] [.null])) rfl rfl (Jvm.hb hby d4_1) _ k₀) ?_
  show Gm p e below s₁ m 4 #[rv r0, .val .null, .unset] [(.int (0 : Int32))] _
  refine own_go (fun t₀ k₀ => XS.ifYes X0.here hx rfl (pc0 := 4) (pc' := 62) rfl (Jvm.hb hby d4_4) rfl (XT.i0_eq_t (by decide)) (by decide) (by decide) k₀) ?_
  show Gm p e below s₁ m 62 #[rv r0, .val .null, .unset] [] _
  refine own_go (fun t₀ k₀ => XS.iconst X0.here hx rfl (Jvm.hb hby d4_62) k₀) ?_
  show Gm p e below s₁ m 63 #[rv r0, .val .null, .unset] [(.int (0 : Int32))] _
  exact own_retI X0 hx hlk (t := .boolean) Bd.returns rfl (by simp) (Jvm.hb hby d4_63) e0 ⟨rfl, N0, rfl⟩ (by decide) (by decide)
theorem own_pn_rm4l : plainName "com/example/libbrake/libbrake/Decision" = true := by first | (simp [plainName, overriddenIn]; done) | decide +kernel
theorem own_ef_rm4l (m : MethodId) (r0 : Addr) (r1 : Addr) : entryFrame m #[(.ref r0), (.ref r1)] 3 = mkF m 0 #[.val (.ref r0), .val (.ref r1), .unset] [] := by first | (simp [entryFrame, mkF, argsToLocals, Value.category]; done) | rfl
def Q4l (Z : State) (r0 : Addr) (r1 : Addr) (h0 : Heap) (n0 : Nat) (v : Option Value) (h : Heap) (L : List Loc) : Prop := v = some (.int 0) ∧ Fr n0 L ∧ h = h0
set_option maxRecDepth 65536 in
set_option maxHeartbeats 40000000 in
theorem rm4l (l : Launch) (Z : State) (a0 : Array Value) (hw : ∀ d ∈ tables_1, d.before a0 Z = true) (ws : List Jvm.Cond) (r0 : Addr) (r1 : Addr) (h0 : Heap) (n0 : Nat) (Z0 : n0 ≤ h0.size) (E_r1 : Exa Z h0 r1 "java/lang/Long") :
    MetFree l (⟨"com/example/libbrake/libbrake/Decision", "equals", "(Ljava/lang/Object;)Z"⟩ : MethodName) (head1 (Jvm.Cond.code (⟨"com/example/libbrake/libbrake/Decision", "equals", "(Ljava/lang/Object;)Z"⟩ : MethodName) prog_12_method_8_code 3 (some .boolean) :: ws) ({ frames := 0, cells := 0, slots := 0, locals := 0 } : Room)) (fun a U => a = #[(.ref r0), (.ref r1)] ∧ Z.Warmed39 U.vm ∧ U.heap = h0) (fun _ _ _ _ _ => True) (fun _ U o U' => ∃ v L, o = .returned v ∧ Q4l Z r0 r1 h0 n0 v U'.heap L ∧ FrameEnd U o U' L ({ frames := 0, cells := 0, slots := 0, locals := 0 } : Room).cells ({ frames := 0, cells := 0, slots := 0, locals := 0 } : Room).slots) := by
  refine MetFree.of_bodySF (plainFor_of_name own_pn_rm4l) hisR ?_
  intro p e s m args below meth cO s₁ Bd hml0 hP hK
  obtain ⟨rfl, hZ, hh⟩ := hP
  have hx := Bd.exec
  have hby := Bd.bytes
  have hml : cO.maxLocals = 3 := hml0
  have hown : s.vm.findClass "com/example/libbrake/libbrake/Decision" = some m.cls := findClass_of_methodNamed Bd.named
  have hnm := (name_of_methodNamed Bd.named Bd.method).1
  have hlk : meth.locks = false := BodyLoose.notSynchronized Bd
  have X0 : Stand p l e ({ frames := 0, cells := 0, slots := 0, locals := 0 } : Room) s m #[(.ref r0), (.ref r1)] below meth cO s₁ [] 0 0 := Stand.of_body Bd
  have e0 : s₁.heap = h0 := by rw [← hh, Bd.state]; rfl
  have N0 := Fr.nil n0
  refine own_in (own_ef_rm4l m r0 r1) ?_
  show Gm p e below s₁ m 0 #[rv r0, rv r1, .unset] [] _
  refine own_go (fun t₀ k₀ => XS.aloadN X0.here hx rfl (Jvm.hb hby d4_0) rfl rfl k₀) ?_
  show Gm p e below s₁ m 1 #[rv r0, rv r1, .unset] [(.ref r1)] _
  obtain ⟨T1, X1, e1, st1⟩ := instNo X0 hx hZ hown (hw _ (List.mem_of_getElem? (i := 27) rfl)) e0 E_r1 (own_nsno (hw _ (List.mem_of_getElem? (i := 37) rfl)) (hw _ (List.mem_of_getElem? (i := 6) rfl)) (NS.step (hw _ (List.mem_of_getElem? (i := 37) rfl)) (NS.step (hw _ (List.mem_of_getElem? (i := 38) rfl)) (own_nsroot (hw _ (List.mem_of_getElem? (i := 39) rfl)) (hw _ (List.mem_of_getElem? (i := 6) rfl)) (by decide)) (by decide)) (by decide)) (by decide)) (g := (mkF m 1 #[rv r0, rv r1, .unset] [(.ref r1)])) rfl rfl (Jvm.hb hby d4_1)
  refine own_go st1 ?_
  show Gm p e below T1 m 4 #[rv r0, rv r1, .unset] [(.int (0 : Int32))] _
  refine own_go (fun t₀ k₀ => XS.ifYes X1.here hx rfl (pc0 := 4) (pc' := 62) rfl (Jvm.hb hby d4_4) rfl (XT.i0_eq_t (by decide)) (by decide) (by decide) k₀) ?_
  show Gm p e below T1 m 62 #[rv r0, rv r1, .unset] [] _
  refine own_go (fun t₀ k₀ => XS.iconst X1.here hx rfl (Jvm.hb hby d4_62) k₀) ?_
  show Gm p e below T1 m 63 #[rv r0, rv r1, .unset] [(.int (0 : Int32))] _
  exact own_retI X1 hx hlk (t := .boolean) Bd.returns rfl (by simp) (Jvm.hb hby d4_63) e1 ⟨rfl, N0, rfl⟩ (by decide) (by decide)
theorem d7_0 : decode jdk_18_method_1_code 0 = .ok (.aload_n 0, 1) := by decide +kernel
theorem d7_1 : decode jdk_18_method_1_code 1 = .ok (.invokespecial 1, 3) := by decide +kernel
theorem d7_4 : decode jdk_18_method_1_code 4 = .ok (.return_, 1) := by decide +kernel
theorem own_pn_rm7 : plainName "java/lang/Number" = true := by first | (simp [plainName, overriddenIn]; done) | decide +kernel
theorem own_ef_rm7 (m : MethodId) (r0 : Addr) : entryFrame m #[(.ref r0)] 1 = mkF m 0 #[.val (.ref r0)] [] := by first | (simp [entryFrame, mkF, argsToLocals, Value.category]; done) | rfl
def Q7 (Z : State) (r0 : Addr) (h0 : Heap) (n0 : Nat) (v : Option Value) (h : Heap) (L : List Loc) : Prop := v = none ∧ Fr n0 L ∧ h = h0
set_option maxRecDepth 65536 in
set_option maxHeartbeats 40000000 in
theorem rm7 (l : Launch) (Z : State) (a0 : Array Value) (hw : ∀ d ∈ tables_1, d.before a0 Z = true) (ws : List Jvm.Cond) (r0 : Addr) (h0 : Heap) (n0 : Nat) (Z0 : n0 ≤ h0.size) :
    MetFree l (⟨"java/lang/Number", "<init>", "()V"⟩ : MethodName) (head1 (Jvm.Cond.code (⟨"java/lang/Number", "<init>", "()V"⟩ : MethodName) jdk_18_method_1_code 1 none :: ws) ({ frames := 1, cells := 0, slots := 0, locals := 12 } : Room)) (fun a U => a = #[(.ref r0)] ∧ Z.Warmed39 U.vm ∧ U.heap = h0) (fun _ _ _ _ _ => True) (fun _ U o U' => ∃ v L, o = .returned v ∧ Q7 Z r0 h0 n0 v U'.heap L ∧ FrameEnd U o U' L ({ frames := 1, cells := 0, slots := 0, locals := 12 } : Room).cells ({ frames := 1, cells := 0, slots := 0, locals := 12 } : Room).slots) := by
  refine MetFree.of_bodySF (plainFor_of_name own_pn_rm7) hisR ?_
  intro p e s m args below meth cO s₁ Bd hml0 hP hK
  obtain ⟨rfl, hZ, hh⟩ := hP
  have hx := Bd.exec
  have hby := Bd.bytes
  have hml : cO.maxLocals = 1 := hml0
  have hown : s.vm.findClass "java/lang/Number" = some m.cls := findClass_of_methodNamed Bd.named
  have hnm := (name_of_methodNamed Bd.named Bd.method).1
  have hlk : meth.locks = false := BodyLoose.notSynchronized Bd
  have X0 : Stand p l e ({ frames := 1, cells := 0, slots := 0, locals := 12 } : Room) s m #[(.ref r0)] below meth cO s₁ [] 0 0 := Stand.of_body Bd
  have e0 : s₁.heap = h0 := by rw [← hh, Bd.state]; rfl
  have N0 := Fr.nil n0
  refine own_in (own_ef_rm7 m r0) ?_
  show Gm p e below s₁ m 0 #[rv r0] [] _
  refine own_go (fun t₀ k₀ => XS.aloadN X0.here hx rfl (Jvm.hb hby d7_0) rfl rfl k₀) ?_
  show Gm p e below s₁ m 1 #[rv r0] [(.ref r0)] _
  obtain ⟨T1, X1, e1, st1⟩ := initO X0 hx hZ hown (hw _ (List.mem_of_getElem? (i := 52) rfl)) (hw _ (List.mem_of_getElem? (i := 12) rfl)) (hw _ (List.mem_of_getElem? (i := 13) rfl)) e0 (g := (mkF m 1 #[rv r0] [(.ref r0)])) rfl (by rw [hml]; rfl) rfl (Jvm.hb hby d7_1) (by decide) (W := 0) (by show 2 * 0 + _ ≤ _; exact Nat.le_of_eq rfl) (by decide)
  refine own_go st1 ?_
  show Gm p e below T1 m 4 #[rv r0] [] _
  exact own_retV X1 hx hlk Bd.returns (Jvm.hb hby d7_4) e1 ⟨rfl, N0, rfl⟩ (by decide) (by decide)
theorem d6_0 : decode jdk_35_method_26_code 0 = .ok (.aload_n 0, 1) := by decide +kernel
theorem d6_1 : decode jdk_35_method_26_code 1 = .ok (.invokespecial 270, 3) := by decide +kernel
theorem d6_4 : decode jdk_35_method_26_code 4 = .ok (.aload_n 0, 1) := by decide +kernel
theorem d6_5 : decode jdk_35_method_26_code 5 = .ok (.lload_n 1, 1) := by decide +kernel
theorem d6_6 : decode jdk_35_method_26_code 6 = .ok (.putfield 273, 3) := by decide +kernel
theorem d6_9 : decode jdk_35_method_26_code 9 = .ok (.return_, 1) := by decide +kernel
theorem own_pd0 : parseMethodDescriptor "()V" = some ⟨[], none⟩ := by decide +kernel
theorem own_pn_rm6 : plainName "java/lang/Long" = true := by first | (simp [plainName, overriddenIn]; done) | decide +kernel
theorem own_ef_rm6 (m : MethodId) (r0 : Addr) (q1 : Int64) : entryFrame m #[(.ref r0), (.long q1)] 3 = mkF m 0 #[.val (.ref r0), .val (.long q1), .second] [] := by first | (simp [entryFrame, mkF, argsToLocals, Value.category]; done) | rfl
def Q6 (Z : State) (r0 : Addr) (q1 : Int64) (h0 : Heap) (n0 : Nat) (v : Option Value) (h : Heap) (L : List Loc) : Prop := v = none ∧ Fr n0 L ∧ Keep h0 h [r0] ∧ Exa Z h r0 "java/lang/Long"
set_option maxRecDepth 65536 in
set_option maxHeartbeats 40000000 in
theorem rm6 (l : Launch) (Z : State) (a0 : Array Value) (hw : ∀ d ∈ tables_1, d.before a0 Z = true) (ws : List Jvm.Cond) (r0 : Addr) (q1 : Int64) (h0 : Heap) (n0 : Nat) (Z0 : n0 ≤ h0.size) (E_r0 : Exa Z h0 r0 "java/lang/Long") (F_v : Fld Z h0 r0 "java/lang/Long" "value" "J" (.long (0 : Int64))) (g_r0 : n0 ≤ r0) :
    MetFree l (⟨"java/lang/Long", "<init>", "(J)V"⟩ : MethodName) (head1 (Jvm.Cond.code (⟨"java/lang/Long", "<init>", "(J)V"⟩ : MethodName) jdk_35_method_26_code 3 none :: ws) ({ frames := 2, cells := 0, slots := 0, locals := 24 } : Room)) (fun a U => a = #[(.ref r0), (.long q1)] ∧ Z.Warmed39 U.vm ∧ U.heap = h0) (fun _ _ _ _ _ => True) (fun _ U o U' => ∃ v L, o = .returned v ∧ Q6 Z r0 q1 h0 n0 v U'.heap L ∧ FrameEnd U o U' L ({ frames := 2, cells := 0, slots := 0, locals := 24 } : Room).cells ({ frames := 2, cells := 0, slots := 0, locals := 24 } : Room).slots) := by
  refine MetFree.of_bodySF (plainFor_of_name own_pn_rm6) hisR ?_
  intro p e s m args below meth cO s₁ Bd hml0 hP hK
  obtain ⟨rfl, hZ, hh⟩ := hP
  have hx := Bd.exec
  have hby := Bd.bytes
  have hml : cO.maxLocals = 3 := hml0
  have hown : s.vm.findClass "java/lang/Long" = some m.cls := findClass_of_methodNamed Bd.named
  have hnm := (name_of_methodNamed Bd.named Bd.method).1
  have hlk : meth.locks = false := BodyLoose.notSynchronized Bd
  have X0 : Stand p l e ({ frames := 2, cells := 0, slots := 0, locals := 24 } : Room) s m #[(.ref r0), (.long q1)] below meth cO s₁ [] 0 0 := Stand.of_body Bd
  have e0 : s₁.heap = h0 := by rw [← hh, Bd.state]; rfl
  have N0 := Fr.nil n0
  refine own_in (own_ef_rm6 m r0 q1) ?_
  show Gm p e below s₁ m 0 #[rv r0, lv q1, .second] [] _
  refine own_go (fun t₀ k₀ => XS.aloadN X0.here hx rfl (Jvm.hb hby d6_0) rfl rfl k₀) ?_
  show Gm p e below s₁ m 1 #[rv r0, lv q1, .second] [(.ref r0)] _
  obtain ⟨_, _, ⟨T1, L1, k1, n1⟩, -, X1, ⟨Lc1, hQ1, l1, y1, z1⟩, st1⟩ := X0.specialBack hx (y := (⟨"java/lang/Number", "<init>", "()V"⟩ : MethodName)) rfl hown (mvT hZ (hw _ (List.mem_of_getElem? (i := 46) rfl))) (mvT hZ (hw _ (List.mem_of_getElem? (i := 47) rfl))) (mvT hZ (hw _ (List.mem_of_getElem? (i := 51) rfl))) (by decide) (backOf (W := 0) (rm7 l Z a0 hw [] r0 h0 n0 Z0) hZ (hw _ (List.mem_of_getElem? (i := 51) rfl)) (hw _ (List.mem_of_getElem? (i := 50) rfl)) (by decide) (by decide)) (g := (mkF m 1 #[rv r0, lv q1, .second] [(.ref r0)])) rfl (by rw [hml]; rfl) (Steps.refl _) (a := r0) (argsL := []) (rest := []) (lenOf own_pd0 rfl) rfl (by show 2 * 0 + _ ≤ _; exact Nat.le_of_eq rfl) (Jvm.hb hby d6_1) (fun _ _ => ⟨rfl, e0, (by decide : 0 + 0 ≤ _), (by decide : 0 + 0 ≤ _)⟩)
  dsimp only [Pt.U, Pt.locs, Pt.cells, Pt.slots] at X1 l1 y1 z1 st1 hQ1
  subst l1 y1 z1
  obtain ⟨rfl, Nq1, eq1⟩ := hQ1
  have N1 := Fr.app N0 Nq1
  have e1 : T1.heap = h0 := eq1
  refine own_go (fun t k => st1.trans k) ?_
  show Gm p e below T1 m 4 #[rv r0, lv q1, .second] [] _
  refine own_go (fun t₀ k₀ => XS.aloadN X1.here hx rfl (Jvm.hb hby d6_4) rfl rfl k₀) ?_
  show Gm p e below T1 m 5 #[rv r0, lv q1, .second] [(.ref r0)] _
  refine own_go (fun t₀ k₀ => XS.lloadN X1.here hx rfl (Jvm.hb hby d6_5) rfl k₀) ?_
  show Gm p e below T1 m 6 #[rv r0, lv q1, .second] [(.long q1), (.ref r0)] _
  obtain ⟨T2, h2, X2, e2, W2, st2⟩ := putF X1 hx hZ hown (host := "") (Or.inl (hw _ (List.mem_of_getElem? (i := 53) rfl))) Via.refl e1 F_v E_r0 (Or.inr ⟨(hw _ (List.mem_of_getElem? (i := 54) rfl)), rfl, hnm⟩) (hw _ (List.mem_of_getElem? (i := 41) rfl)) (ty := .long) (by decide) rfl rfl (g := (mkF m 6 #[rv r0, lv q1, .second] [(.long q1), (.ref r0)])) rfl rfl (Jvm.hb hby d6_6)
  have Fw2 := Fld.same W2 F_v
  have N2 := Fr.snoc X2 N1 g_r0
  have Z2 : n0 ≤ h2.size := W2.size ▸ Z0
  have K2 : Keep h0 h2 [r0] := Keep.wr (Keep.refl h0 [r0]) W2 (Or.inl (List.mem_of_getElem? (i := 0) rfl))
  refine own_go st2 ?_
  show Gm p e below T2 m 9 #[rv r0, lv q1, .second] [] _
  have f3 := (E_r0.wr W2)
  exact own_retV X2 hx hlk Bd.returns (Jvm.hb hby d6_9) e2 ⟨rfl, N2, K2, f3⟩ (by decide) (by decide)

theorem own_ix {q : Int64} (h1 : ¬ q < (-128 : Int64)) (h2 : ¬ (127 : Int64) < q) : ¬ (q.toInt32 + (128 : Int32)) < 0 ∧ (q.toInt32 + (128 : Int32)).toNatClampNeg < 256 := by
  rw [Int64.lt_iff_toInt_lt] at h1 h2
  have g1 : ¬ q.toInt < -128 := h1
  have g2 : ¬ 127 < q.toInt := h2
  have e1 := c_l2i q
  have e2 := rng32 q.toInt32
  have e3 : q.toInt32.toInt = q.toInt := by omega
  have e4 := c_iadd q.toInt32 128
  have e5 : (128 : Int32).toInt = 128 := by decide
  have e6 := rng32 (q.toInt32 + 128)
  rw [e5, e3] at e4
  have e7 : (q.toInt32 + 128).toInt = q.toInt + 128 := by omega
  constructor
  · rw [Int32.lt_iff_toInt_lt, e7]; show ¬ _ < (0 : Int); omega
  · show (q.toInt32 + 128).toInt.toNat < 256; rw [e7]; omega
theorem d5_0 : decode jdk_35_method_24_code 0 = .ok (.sipush 128, 3) := by decide +kernel
theorem d5_3 : decode jdk_35_method_24_code 3 = .ok (.istore_n 2, 1) := by decide +kernel
theorem d5_4 : decode jdk_35_method_24_code 4 = .ok (.lload_n 0, 1) := by decide +kernel
theorem d5_5 : decode jdk_35_method_24_code 5 = .ok (.ldc2_w 230, 3) := by decide +kernel
theorem d5_8 : decode jdk_35_method_24_code 8 = .ok (.lcmp, 1) := by decide +kernel
theorem d5_9 : decode jdk_35_method_24_code 9 = .ok (.ifCond .lt 22, 3) := by decide +kernel
theorem d5_12 : decode jdk_35_method_24_code 12 = .ok (.lload_n 0, 1) := by decide +kernel
theorem d5_13 : decode jdk_35_method_24_code 13 = .ok (.ldc2_w 232, 3) := by decide +kernel
theorem d5_16 : decode jdk_35_method_24_code 16 = .ok (.lcmp, 1) := by decide +kernel
theorem d5_17 : decode jdk_35_method_24_code 17 = .ok (.ifCond .gt 14, 3) := by decide +kernel
theorem d5_20 : decode jdk_35_method_24_code 20 = .ok (.getstatic 234, 3) := by decide +kernel
theorem d5_23 : decode jdk_35_method_24_code 23 = .ok (.lload_n 0, 1) := by decide +kernel
theorem d5_24 : decode jdk_35_method_24_code 24 = .ok (.l2i, 1) := by decide +kernel
theorem d5_25 : decode jdk_35_method_24_code 25 = .ok (.sipush 128, 3) := by decide +kernel
theorem d5_28 : decode jdk_35_method_24_code 28 = .ok (.iadd, 1) := by decide +kernel
theorem d5_29 : decode jdk_35_method_24_code 29 = .ok (.aaload, 1) := by decide +kernel
theorem d5_30 : decode jdk_35_method_24_code 30 = .ok (.areturn, 1) := by decide +kernel
theorem d5_31 : decode jdk_35_method_24_code 31 = .ok (.new 1, 3) := by decide +kernel
theorem d5_34 : decode jdk_35_method_24_code 34 = .ok (.dup, 1) := by decide +kernel
theorem d5_35 : decode jdk_35_method_24_code 35 = .ok (.lload_n 0, 1) := by decide +kernel
theorem d5_36 : decode jdk_35_method_24_code 36 = .ok (.invokespecial 240, 3) := by decide +kernel
theorem d5_39 : decode jdk_35_method_24_code 39 = .ok (.areturn, 1) := by decide +kernel
theorem own_pd1 : parseMethodDescriptor "(J)V" = some ⟨[.long], none⟩ := by decide +kernel
theorem own_pn_rm5 : plainName "java/lang/Long" = true := by first | (simp [plainName, overriddenIn]; done) | decide +kernel
theorem own_ef_rm5 (m : MethodId) (q0 : Int64) : entryFrame m #[(.long q0)] 3 = mkF m 0 #[.val (.long q0), .second, .unset] [] := by first | (simp [entryFrame, mkF, argsToLocals, Value.category]; done) | rfl
def Q5 (Z : State) (q0 : Int64) (ca : Addr) (f : Nat → Value) (h0 : Heap) (n0 : Nat) (v : Option Value) (h : Heap) (L : List Loc) : Prop := ∃ a : Addr, v = some (.ref a) ∧ Fr n0 L ∧ Keep h0 h [] ∧ Exa Z h a "java/lang/Long"
set_option maxRecDepth 65536 in
set_option maxHeartbeats 40000000 in
theorem rm5 (l : Launch) (Z : State) (a0 : Array Value) (hw : ∀ d ∈ tables_1, d.before a0 Z = true) (ws : List Jvm.Cond) (q0 : Int64) (ca : Addr) (f : Nat → Value) (h0 : Heap) (n0 : Nat) (Z0 : n0 ≤ h0.size) (S_ca : Sta Z h0 "java/lang/Long$LongCache" "cache" "[Ljava/lang/Long;" (.ref ca)) (A : Af Z h0 ca (.object "java/lang/Long") 256 f) (hf : ∀ i, i < 256 → ∃ a, f i = .ref a ∧ Exa Z h0 a "java/lang/Long") :
    MetFree l (⟨"java/lang/Long", "valueOf", "(J)Ljava/lang/Long;"⟩ : MethodName) (head1 (Jvm.Cond.code (⟨"java/lang/Long", "valueOf", "(J)Ljava/lang/Long;"⟩ : MethodName) jdk_35_method_24_code 3 (some (.object "java/lang/Long")) :: ws) ({ frames := 3, cells := 1, slots := 1, locals := 40 } : Room)) (fun a U => a = #[(.long q0)] ∧ Z.Warmed39 U.vm ∧ U.heap = h0) (fun _ _ _ _ _ => True) (fun _ U o U' => ∃ v L, o = .returned v ∧ Q5 Z q0 ca f h0 n0 v U'.heap L ∧ FrameEnd U o U' L ({ frames := 3, cells := 1, slots := 1, locals := 40 } : Room).cells ({ frames := 3, cells := 1, slots := 1, locals := 40 } : Room).slots) := by
  refine MetFree.of_bodySF (plainFor_of_name own_pn_rm5) hisR ?_
  intro p e s m args below meth cO s₁ Bd hml0 hP hK
  obtain ⟨rfl, hZ, hh⟩ := hP
  have hx := Bd.exec
  have hby := Bd.bytes
  have hml : cO.maxLocals = 3 := hml0
  have hown : s.vm.findClass "java/lang/Long" = some m.cls := findClass_of_methodNamed Bd.named
  have hnm := (name_of_methodNamed Bd.named Bd.method).1
  have hlk : meth.locks = false := BodyLoose.notSynchronized Bd
  have X0 : Stand p l e ({ frames := 3, cells := 1, slots := 1, locals := 40 } : Room) s m #[(.long q0)] below meth cO s₁ [] 0 0 := Stand.of_body Bd
  have e0 : s₁.heap = h0 := by rw [← hh, Bd.state]; rfl
  have N0 := Fr.nil n0
  refine own_in (own_ef_rm5 m q0) ?_
  show Gm p e below s₁ m 0 #[lv q0, .second, .unset] [] _
  refine own_go (fun t₀ k₀ => XS.sipush X0.here hx rfl (Jvm.hb hby d5_0) k₀) ?_
  show Gm p e below s₁ m 3 #[lv q0, .second, .unset] [(.int (128 : Int32))] _
  refine own_go (fun t₀ k₀ => XS.istoreN X0.here hx rfl (Jvm.hb hby d5_3) rfl (l' := #[lv q0, .second, iv (128 : Int32)]) rfl k₀) ?_
  show Gm p e below s₁ m 4 #[lv q0, .second, iv (128 : Int32)] [] _
  refine own_go (fun t₀ k₀ => XS.lloadN X0.here hx rfl (Jvm.hb hby d5_4) rfl k₀) ?_
  show Gm p e below s₁ m 5 #[lv q0, .second, iv (128 : Int32)] [(.long q0)] _
  refine own_go (fun t₀ k₀ => X0.ldc2J hx hown (mvT hZ (hw _ (List.mem_of_getElem? (i := 33) rfl))) rfl (Jvm.hb hby d5_5) k₀) ?_
  show Gm p e below s₁ m 8 #[lv q0, .second, iv (128 : Int32)] [(.long (-128 : Int64)), (.long q0)] _
  refine own_go (fun t₀ k₀ => XT.lcmp X0.here hx rfl (Jvm.hb hby d5_8) rfl k₀) ?_
  show Gm p e below s₁ m 9 #[lv q0, .second, iv (128 : Int32)] [(.int (XT.cmpL q0 (-128 : Int64)))] _
  by_cases c1 : q0 < (-128 : Int64)
  · have hfork := trivial
    refine own_go (fun t₀ k₀ => XS.ifYes X0.here hx rfl (pc0 := 9) (pc' := 31) rfl (Jvm.hb hby d5_9) rfl (XT.ll_lt_t c1) (by decide) (by decide) k₀) ?_
    show Gm p e below s₁ m 31 #[lv q0, .second, iv (128 : Int32)] [] _
    obtain ⟨T2, h2, X2, e2, E2, A2, D2, -, st2⟩ := newO X0 hx hZ hown (hw _ (List.mem_of_getElem? (i := 40) rfl)) (hw _ (List.mem_of_getElem? (i := 41) rfl)) (hw _ (List.mem_of_getElem? (i := 31) rfl)) e0 (g := (mkF m 31 #[lv q0, .second, iv (128 : Int32)] [])) rfl (Jvm.hb hby d5_31) (by decide) (by decide)
    obtain ⟨b2, g2⟩ : ∃ z, z = h0.size := ⟨_, rfl⟩
    rw [← g2] at A2 D2 st2
    have g_b2 : n0 ≤ b2 := Nat.le_trans Z0 (Nat.le_of_eq g2.symm)
    have sz_b2 : h0.size ≤ b2 := Nat.le_trans (Keep.refl h0 []).1 (Nat.le_of_eq g2.symm)
    have K2 : Keep h0 h2 [] := Keep.ext (Keep.refl h0 []) E2
    have Z2 : n0 ≤ h2.size := Nat.le_trans Z0 E2.1
    have F_value_b2 : Fld Z h2 b2 "java/lang/Long" "value" "J" (.long (0 : Int64)) := D2 (Or.inr (hw _ (List.mem_of_getElem? (i := 54) rfl))) (ty := .long) (by decide)
    refine own_go st2 ?_
    show Gm p e below T2 m 34 #[lv q0, .second, iv (128 : Int32)] [(.ref b2)] _
    refine own_go (fun t₀ k₀ => XS.dup X2.here hx rfl (Jvm.hb hby d5_34) rfl rfl k₀) ?_
    show Gm p e below T2 m 35 #[lv q0, .second, iv (128 : Int32)] [(.ref b2), (.ref b2)] _
    refine own_go (fun t₀ k₀ => XS.lloadN X2.here hx rfl (Jvm.hb hby d5_35) rfl k₀) ?_
    show Gm p e below T2 m 36 #[lv q0, .second, iv (128 : Int32)] [(.long q0), (.ref b2), (.ref b2)] _
    obtain ⟨_, _, ⟨T3, L3, k3, n3⟩, -, X3, ⟨Lc3, hQ3, l3, y3, z3⟩, st3⟩ := X2.specialBack hx (y := (⟨"java/lang/Long", "<init>", "(J)V"⟩ : MethodName)) rfl hown (mvT hZ (hw _ (List.mem_of_getElem? (i := 42) rfl))) (mvT hZ (hw _ (List.mem_of_getElem? (i := 43) rfl))) (mvT hZ (hw _ (List.mem_of_getElem? (i := 45) rfl))) (by decide) (backOf (W := 1) (rm6 l Z a0 hw [] b2 q0 h2 n0 Z2 A2 F_value_b2 g_b2) hZ (hw _ (List.mem_of_getElem? (i := 45) rfl)) (hw _ (List.mem_of_getElem? (i := 31) rfl)) (by decide) (by decide)) (g := (mkF m 36 #[lv q0, .second, iv (128 : Int32)] [(.long q0), (.ref b2), (.ref b2)])) rfl (by rw [hml]; rfl) (Steps.refl _) (a := b2) (argsL := [(.long q0)]) (rest := [(.ref b2)]) (lenOf own_pd1 rfl) rfl (by show 2 * 0 + _ ≤ _; exact Nat.le_of_eq rfl) (Jvm.hb hby d5_36) (fun _ _ => ⟨rfl, e2, (by decide : 1 + 0 ≤ _), (by decide : 1 + 0 ≤ _)⟩)
    dsimp only [Pt.U, Pt.locs, Pt.cells, Pt.slots] at X3 l3 y3 z3 st3 hQ3
    subst l3 y3 z3
    obtain ⟨rfl, Nq3, Kc3, Ec3⟩ := hQ3
    have N3 := Fr.app N0 Nq3
    refine own_go (fun t k => st3.trans k) ?_
    have Z3 : n0 ≤ T3.heap.size := Nat.le_trans Z2 Kc3.1
    have K3 : Keep h0 T3.heap [] := Keep.trans K2 Kc3 (allS (Or.inr sz_b2) all0)
    show Gm p e below T3 m 39 #[lv q0, .second, iv (128 : Int32)] [(.ref b2)] _
    exact own_retA X3 hx hlk rfl Bd.returns rfl (Jvm.hb hby d5_39) rfl ⟨b2, rfl, N3, K3, Ec3⟩ (by decide) (by decide)
  · have hfork := trivial
    refine own_go (fun t₀ k₀ => XS.ifNo X0.here hx rfl (Jvm.hb hby d5_9) rfl (XT.ll_lt_f c1) k₀) ?_
    show Gm p e below s₁ m 12 #[lv q0, .second, iv (128 : Int32)] [] _
    refine own_go (fun t₀ k₀ => XS.lloadN X0.here hx rfl (Jvm.hb hby d5_12) rfl k₀) ?_
    show Gm p e below s₁ m 13 #[lv q0, .second, iv (128 : Int32)] [(.long q0)] _
    refine own_go (fun t₀ k₀ => X0.ldc2J hx hown (mvT hZ (hw _ (List.mem_of_getElem? (i := 34) rfl))) rfl (Jvm.hb hby d5_13) k₀) ?_
    show Gm p e below s₁ m 16 #[lv q0, .second, iv (128 : Int32)] [(.long (127 : Int64)), (.long q0)] _
    refine own_go (fun t₀ k₀ => XT.lcmp X0.here hx rfl (Jvm.hb hby d5_16) rfl k₀) ?_
    show Gm p e below s₁ m 17 #[lv q0, .second, iv (128 : Int32)] [(.int (XT.cmpL q0 (127 : Int64)))] _
    by_cases c4 : (127 : Int64) < q0
    · have hfork := trivial
      refine own_go (fun t₀ k₀ => XS.ifYes X0.here hx rfl (pc0 := 17) (pc' := 31) rfl (Jvm.hb hby d5_17) rfl (XT.ll_gt_t c4) (by decide) (by decide) k₀) ?_
      show Gm p e below s₁ m 31 #[lv q0, .second, iv (128 : Int32)] [] _
      obtain ⟨T5, h5, X5, e5, E5, A5, D5, -, st5⟩ := newO X0 hx hZ hown (hw _ (List.mem_of_getElem? (i := 40) rfl)) (hw _ (List.mem_of_getElem? (i := 41) rfl)) (hw _ (List.mem_of_getElem? (i := 31) rfl)) e0 (g := (mkF m 31 #[lv q0, .second, iv (128 : Int32)] [])) rfl (Jvm.hb hby d5_31) (by decide) (by decide)
      obtain ⟨b5, g5⟩ : ∃ z, z = h0.size := ⟨_, rfl⟩
      rw [← g5] at A5 D5 st5
      have g_b5 : n0 ≤ b5 := Nat.le_trans Z0 (Nat.le_of_eq g5.symm)
      have sz_b5 : h0.size ≤ b5 := Nat.le_trans (Keep.refl h0 []).1 (Nat.le_of_eq g5.symm)
      have K5 : Keep h0 h5 [] := Keep.ext (Keep.refl h0 []) E5
      have Z5 : n0 ≤ h5.size := Nat.le_trans Z0 E5.1
      have F_value_b5 : Fld Z h5 b5 "java/lang/Long" "value" "J" (.long (0 : Int64)) := D5 (Or.inr (hw _ (List.mem_of_getElem? (i := 54) rfl))) (ty := .long) (by decide)
      refine own_go st5 ?_
      show Gm p e below T5 m 34 #[lv q0, .second, iv (128 : Int32)] [(.ref b5)] _
      refine own_go (fun t₀ k₀ => XS.dup X5.here hx rfl (Jvm.hb hby d5_34) rfl rfl k₀) ?_
      show Gm p e below T5 m 35 #[lv q0, .second, iv (128 : Int32)] [(.ref b5), (.ref b5)] _
      refine own_go (fun t₀ k₀ => XS.lloadN X5.here hx rfl (Jvm.hb hby d5_35) rfl k₀) ?_
      show Gm p e below T5 m 36 #[lv q0, .second, iv (128 : Int32)] [(.long q0), (.ref b5), (.ref b5)] _
      obtain ⟨_, _, ⟨T6, L6, k6, n6⟩, -, X6, ⟨Lc6, hQ6, l6, y6, z6⟩, st6⟩ := X5.specialBack hx (y := (⟨"java/lang/Long", "<init>", "(J)V"⟩ : MethodName)) rfl hown (mvT hZ (hw _ (List.mem_of_getElem? (i := 42) rfl))) (mvT hZ (hw _ (List.mem_of_getElem? (i := 43) rfl))) (mvT hZ (hw _ (List.mem_of_getElem? (i := 45) rfl))) (by decide) (backOf (W := 1) (rm6 l Z a0 hw [] b5 q0 h5 n0 Z5 A5 F_value_b5 g_b5) hZ (hw _ (List.mem_of_getElem? (i := 45) rfl)) (hw _ (List.mem_of_getElem? (i := 31) rfl)) (by decide) (by decide)) (g := (mkF m 36 #[lv q0, .second, iv (128 : Int32)] [(.long q0), (.ref b5), (.ref b5)])) rfl (by rw [hml]; rfl) (Steps.refl _) (a := b5) (argsL := [(.long q0)]) (rest := [(.ref b5)]) (lenOf own_pd1 rfl) rfl (by show 2 * 0 + _ ≤ _; exact Nat.le_of_eq rfl) (Jvm.hb hby d5_36) (fun _ _ => ⟨rfl, e5, (by decide : 1 + 0 ≤ _), (by decide : 1 + 0 ≤ _)⟩)
      dsimp only [Pt.U, Pt.locs, Pt.cells, Pt.slots] at X6 l6 y6 z6 st6 hQ6
      subst l6 y6 z6
      obtain ⟨rfl, Nq6, Kc6, Ec6⟩ := hQ6
      have N6 := Fr.app N0 Nq6
      refine own_go (fun t k => st6.trans k) ?_
      have Z6 : n0 ≤ T6.heap.size := Nat.le_trans Z5 Kc6.1
      have K6 : Keep h0 T6.heap [] := Keep.trans K5 Kc6 (allS (Or.inr sz_b5) all0)
      show Gm p e below T6 m 39 #[lv q0, .second, iv (128 : Int32)] [(.ref b5)] _
      exact own_retA X6 hx hlk rfl Bd.returns rfl (Jvm.hb hby d5_39) rfl ⟨b5, rfl, N6, K6, Ec6⟩ (by decide) (by decide)
    · have hfork := trivial
      refine own_go (fun t₀ k₀ => XS.ifNo X0.here hx rfl (Jvm.hb hby d5_17) rfl (XT.ll_gt_f c4) k₀) ?_
      show Gm p e below s₁ m 20 #[lv q0, .second, iv (128 : Int32)] [] _
      obtain ⟨T7, X7, e7, st7⟩ := getS2 X0 hx hZ hown (host := "") (Or.inl (hw _ (List.mem_of_getElem? (i := 35) rfl))) Via.refl e0 S_ca (g := (mkF m 20 #[lv q0, .second, iv (128 : Int32)] [])) rfl (Jvm.hb hby d5_20)
      refine own_go st7 ?_
      show Gm p e below T7 m 23 #[lv q0, .second, iv (128 : Int32)] [(.ref ca)] _
      refine own_go (fun t₀ k₀ => XS.lloadN X7.here hx rfl (Jvm.hb hby d5_23) rfl k₀) ?_
      show Gm p e below T7 m 24 #[lv q0, .second, iv (128 : Int32)] [(.long q0), (.ref ca)] _
      refine own_go (fun t₀ k₀ => XS.l2i X7.here hx rfl (Jvm.hb hby d5_24) rfl k₀) ?_
      show Gm p e below T7 m 25 #[lv q0, .second, iv (128 : Int32)] [(.int (q0.toInt32)), (.ref ca)] _
      refine own_go (fun t₀ k₀ => XS.sipush X7.here hx rfl (Jvm.hb hby d5_25) k₀) ?_
      show Gm p e below T7 m 28 #[lv q0, .second, iv (128 : Int32)] [(.int (128 : Int32)), (.int (q0.toInt32)), (.ref ca)] _
      refine own_go (fun t₀ k₀ => XS.iadd X7.here hx rfl (Jvm.hb hby d5_28) rfl k₀) ?_
      show Gm p e below T7 m 29 #[lv q0, .second, iv (128 : Int32)] [(.int ((q0.toInt32) + (128 : Int32))), (.ref ca)] _
      have hix := own_ix c1 c4
      obtain ⟨ea, hea, Eea⟩ := hf _ hix.2
      refine own_go (fun t₀ k₀ => own_ldR X7 hx hZ e7 A rfl (j := ((q0.toInt32) + (128 : Int32))) hix.1 rfl hix.2 (w := .ref ea) hea (g := (mkF m 29 #[lv q0, .second, iv (128 : Int32)] [(.int ((q0.toInt32) + (128 : Int32))), (.ref ca)])) rfl rfl (Jvm.hb hby d5_29) k₀) ?_
      show Gm p e below T7 m 30 #[lv q0, .second, iv (128 : Int32)] [(.ref ea)] _
      exact own_retA X7 hx hlk rfl Bd.returns rfl (Jvm.hb hby d5_30) e7 ⟨ea, rfl, N0, (Keep.refl h0 []), Eea⟩ (by decide) (by decide)

theorem own_nn (x : Int64) : ¬ (x &&& (9223372036854775807 : Int64)) < 0 := by
  have h := c_maskL x 9223372036854775807 63 (by decide) (by decide)
  rw [Int64.lt_iff_toInt_lt, h]
  have := Int.emod_nonneg x.toInt (by decide : ((2 ^ 63 : Nat) : Int) ≠ 0)
  show ¬ _ < (0 : Int)
  omega
theorem own_w1 {a f : Int32} {r w : Int64} (h : w = fW a f r) : ¬ w < 0 := by
  rw [h]; unfold fW
  repeat' split
  all_goals first | exact own_nn r | decide
theorem own_w2 {a f : Int32} {r w : Int64} (h : w = fW a f r) : ¬ a = 0 → w = 0 := by
  intro q; rw [h]; unfold fW; rw [if_neg q]
theorem own_w3 {a f : Int32} {r w : Int64} (h : w = fW a f r) : a = 0 → f = 0 → ¬ w = 0 := by
  intro q1 q2; rw [h]; unfold fW; rw [if_pos q1, if_pos q2]
  split
  · decide
  · assumption
theorem own_ee (a0 : Int32) (r0 w0 : Int64) (f0 : Int32) : fE a0 r0 w0 f0 a0 r0 w0 f0 = 1 := by unfold fE; rw [if_pos rfl, if_pos rfl, if_pos rfl, if_pos rfl]
theorem own_pd2 : parseMethodDescriptor "(ZZJ)J" = some ⟨[.boolean, .boolean, .long], some .long⟩ := by decide +kernel
theorem own_pd3 : parseMethodDescriptor "(ZJJZ)V" = some ⟨[.boolean, .long, .long, .boolean], none⟩ := by decide +kernel
theorem own_pd4 : parseMethodDescriptor "(Ljava/lang/Object;)Z" = some ⟨[(.object "java/lang/Object")], some .boolean⟩ := by decide +kernel
theorem own_pd5 : parseMethodDescriptor "(J)Ljava/lang/Long;" = some ⟨[.long], some (.object "java/lang/Long")⟩ := by decide +kernel
theorem own_pn_rm0 : plainName "com/example/libbrake/libbrake/DecisionEqualsPinLaw" = true := by first | (simp [plainName, overriddenIn]; done) | decide +kernel
theorem own_ef_rm0 (m : MethodId) (p0 : Int32) (q1 : Int64) (q2 : Int64) (q3 : Int64) (q4 : Int64) : entryFrame m #[(.int p0), (.long q1), (.long q2), (.long q3), (.long q4)] maxLocals = mkF m 0 #[.val (.int p0), .val (.long q1), .second, .val (.long q2), .second, .val (.long q3), .second, .val (.long q4), .second, .unset, .unset, .unset, .unset, .unset, .unset, .unset, .unset, .unset, .unset, .unset, .unset, .unset, .unset, .unset, .unset, .unset] [] := by first | (simp [entryFrame, mkF, argsToLocals, Value.category, maxLocals]; done) | rfl
def Q0 (Z : State) (p0 : Int32) (q1 : Int64) (q2 : Int64) (q3 : Int64) (q4 : Int64) (ca : Addr) (f : Nat → Value) (h0 : Heap) (n0 : Nat) (v : Option Value) (h : Heap) (L : List Loc) : Prop := v = some (.int 1) ∧ Fr n0 L
set_option maxRecDepth 65536 in
set_option maxHeartbeats 40000000 in
theorem rm0 (l : Launch) (Z : State) (a0 : Array Value) (hw : ∀ d ∈ tables_1, d.before a0 Z = true) (ws : List Jvm.Cond) (p0 : Int32) (q1 : Int64) (q2 : Int64) (q3 : Int64) (q4 : Int64) (ca : Addr) (f : Nat → Value) (h0 : Heap) (n0 : Nat) (Z0 : n0 ≤ h0.size) (S_ca : Sta Z Z.heap "java/lang/Long$LongCache" "cache" "[Ljava/lang/Long;" (.ref ca)) (A : Af Z Z.heap ca (.object "java/lang/Long") 256 f) (hf : ∀ i, i < 256 → ∃ a, f i = .ref a ∧ Exa Z Z.heap a "java/lang/Long") (O0 : Old Z n0 h0) :
    MetFree l x (head1 (Jvm.Cond.code x code maxLocals ret :: ws) room_1) (fun a U => a = #[(.int p0), (.long q1), (.long q2), (.long q3), (.long q4)] ∧ Z.Warmed39 U.vm ∧ U.heap = h0) (fun _ _ _ _ _ => True) (fun _ U o U' => ∃ v L, o = .returned v ∧ Q0 Z p0 q1 q2 q3 q4 ca f h0 n0 v U'.heap L ∧ FrameEnd U o U' L room_1.cells room_1.slots) := by
  refine MetFree.of_bodySF (plainFor_of_name own_pn_rm0) hisR ?_
  intro p e s m args below meth cO s₁ Bd hml0 hP hK
  obtain ⟨rfl, hZ, hh⟩ := hP
  have hx := Bd.exec
  have hby := Bd.bytes
  have hml : cO.maxLocals = 26 := hml0
  have hown : s.vm.findClass "com/example/libbrake/libbrake/DecisionEqualsPinLaw" = some m.cls := findClass_of_methodNamed Bd.named
  have hnm := (name_of_methodNamed Bd.named Bd.method).1
  have hlk : meth.locks = false := BodyLoose.notSynchronized Bd
  have X0 : Stand p l e room_1 s m #[(.int p0), (.long q1), (.long q2), (.long q3), (.long q4)] below meth cO s₁ [] 0 0 := Stand.of_body Bd
  have e0 : s₁.heap = h0 := by rw [← hh, Bd.state]; rfl
  have N0 := Fr.nil n0
  refine own_in (own_ef_rm0 m p0 q1 q2 q3 q4) ?_
  show Gm p e below s₁ m 0 #[iv p0, lv q1, .second, lv q2, .second, lv q3, .second, lv q4, .second, .unset, .unset, .unset, .unset, .unset, .unset, .unset, .unset, .unset, .unset, .unset, .unset, .unset, .unset, .unset, .unset, .unset] [] _
  refine own_go (fun t₀ k₀ => XS.iloadN X0.here hx rfl (Jvm.hb hby at_0) rfl k₀) ?_
  show Gm p e below s₁ m 1 #[iv p0, lv q1, .second, lv q2, .second, lv q3, .second, lv q4, .second, .unset, .unset, .unset, .unset, .unset, .unset, .unset, .unset, .unset, .unset, .unset, .unset, .unset, .unset, .unset, .unset, .unset] [(.int p0)] _
  refine own_go (fun t₀ k₀ => XS.iconst X0.here hx rfl (Jvm.hb hby at_1) k₀) ?_
  show Gm p e below s₁ m 2 #[iv p0, lv q1, .second, lv q2, .second, lv q3, .second, lv q4, .second, .unset, .unset, .unset, .unset, .unset, .unset, .unset, .unset, .unset, .unset, .unset, .unset, .unset, .unset, .unset, .unset, .unset] [(.int (1 : Int32)), (.int p0)] _
  refine own_go (fun t₀ k₀ => XS.iand X0.here hx rfl (Jvm.hb hby at_2) rfl k₀) ?_
  show Gm p e below s₁ m 3 #[iv p0, lv q1, .second, lv q2, .second, lv q3, .second, lv q4, .second, .unset, .unset, .unset, .unset, .unset, .unset, .unset, .unset, .unset, .unset, .unset, .unset, .unset, .unset, .unset, .unset, .unset] [(.int (p0 &&& (1 : Int32)))] _
  obtain ⟨b1, hb1, k1⟩ : ∃ z : Int32, z = (if (p0 &&& (1 : Int32)) = (0 : Int32) then (0 : Int32) else (1 : Int32)) ∧ ∀ t, Steps p.tables e below (s₁.setTop (mkF m 11 #[iv p0, lv q1, .second, lv q2, .second, lv q3, .second, lv q4, .second, .unset, .unset, .unset, .unset, .unset, .unset, .unset, .unset, .unset, .unset, .unset, .unset, .unset, .unset, .unset, .unset, .unset] [(.int z)])) t → Steps p.tables e below (s₁.setTop (mkF m 3 #[iv p0, lv q1, .second, lv q2, .second, lv q3, .second, lv q4, .second, .unset, .unset, .unset, .unset, .unset, .unset, .unset, .unset, .unset, .unset, .unset, .unset, .unset, .unset, .unset, .unset, .unset] [(.int (p0 &&& (1 : Int32)))])) t := by
    by_cases hq : (p0 &&& (1 : Int32)) = (0 : Int32)
    · refine ⟨(0 : Int32), by rw [if_pos hq], fun t₀ k₀ => ?_⟩
      refine XS.ifYes X0.here hx rfl (pc0 := 3) (pc' := 10) rfl (Jvm.hb hby at_3) rfl (XT.i0_eq_t hq) (by decide) (by decide) ?_
      refine XS.iconst X0.here hx rfl (Jvm.hb hby at_10) ?_
      exact k₀
    · refine ⟨(1 : Int32), by rw [if_neg hq], fun t₀ k₀ => ?_⟩
      refine XS.ifNo X0.here hx rfl (Jvm.hb hby at_3) rfl (XT.i0_eq_f hq) ?_
      refine XS.iconst X0.here hx rfl (Jvm.hb hby at_6) ?_
      refine XS.goto X0.here hx rfl (pc0 := 7) (pc' := 11) rfl (Jvm.hb hby at_7) (by decide) (by decide) ?_
      exact k₀
  refine own_go k1 ?_
  show Gm p e below s₁ m 11 #[iv p0, lv q1, .second, lv q2, .second, lv q3, .second, lv q4, .second, .unset, .unset, .unset, .unset, .unset, .unset, .unset, .unset, .unset, .unset, .unset, .unset, .unset, .unset, .unset, .unset, .unset] [(.int b1)] _
  refine own_go (fun t₀ k₀ => XS.istore X0.here hx rfl (Jvm.hb hby at_11) rfl (l' := #[iv p0, lv q1, .second, lv q2, .second, lv q3, .second, lv q4, .second, iv b1, .unset, .unset, .unset, .unset, .unset, .unset, .unset, .unset, .unset, .unset, .unset, .unset, .unset, .unset, .unset, .unset]) rfl k₀) ?_
  show Gm p e below s₁ m 13 #[iv p0, lv q1, .second, lv q2, .second, lv q3, .second, lv q4, .second, iv b1, .unset, .unset, .unset, .unset, .unset, .unset, .unset, .unset, .unset, .unset, .unset, .unset, .unset, .unset, .unset, .unset] [] _
  refine own_go (fun t₀ k₀ => XS.iloadN X0.here hx rfl (Jvm.hb hby at_13) rfl k₀) ?_
  show Gm p e below s₁ m 14 #[iv p0, lv q1, .second, lv q2, .second, lv q3, .second, lv q4, .second, iv b1, .unset, .unset, .unset, .unset, .unset, .unset, .unset, .unset, .unset, .unset, .unset, .unset, .unset, .unset, .unset, .unset] [(.int p0)] _
  refine own_go (fun t₀ k₀ => XS.iconst X0.here hx rfl (Jvm.hb hby at_14) k₀) ?_
  show Gm p e below s₁ m 15 #[iv p0, lv q1, .second, lv q2, .second, lv q3, .second, lv q4, .second, iv b1, .unset, .unset, .unset, .unset, .unset, .unset, .unset, .unset, .unset, .unset, .unset, .unset, .unset, .unset, .unset, .unset] [(.int (2 : Int32)), (.int p0)] _
  refine own_go (fun t₀ k₀ => XS.iand X0.here hx rfl (Jvm.hb hby at_15) rfl k₀) ?_
  show Gm p e below s₁ m 16 #[iv p0, lv q1, .second, lv q2, .second, lv q3, .second, lv q4, .second, iv b1, .unset, .unset, .unset, .unset, .unset, .unset, .unset, .unset, .unset, .unset, .unset, .unset, .unset, .unset, .unset, .unset] [(.int (p0 &&& (2 : Int32)))] _
  obtain ⟨b2, hb2, k2⟩ : ∃ z : Int32, z = (if (p0 &&& (2 : Int32)) = (0 : Int32) then (0 : Int32) else (1 : Int32)) ∧ ∀ t, Steps p.tables e below (s₁.setTop (mkF m 24 #[iv p0, lv q1, .second, lv q2, .second, lv q3, .second, lv q4, .second, iv b1, .unset, .unset, .unset, .unset, .unset, .unset, .unset, .unset, .unset, .unset, .unset, .unset, .unset, .unset, .unset, .unset] [(.int z)])) t → Steps p.tables e below (s₁.setTop (mkF m 16 #[iv p0, lv q1, .second, lv q2, .second, lv q3, .second, lv q4, .second, iv b1, .unset, .unset, .unset, .unset, .unset, .unset, .unset, .unset, .unset, .unset, .unset, .unset, .unset, .unset, .unset, .unset] [(.int (p0 &&& (2 : Int32)))])) t := by
    by_cases hq : (p0 &&& (2 : Int32)) = (0 : Int32)
    · refine ⟨(0 : Int32), by rw [if_pos hq], fun t₀ k₀ => ?_⟩
      refine XS.ifYes X0.here hx rfl (pc0 := 16) (pc' := 23) rfl (Jvm.hb hby at_16) rfl (XT.i0_eq_t hq) (by decide) (by decide) ?_
      refine XS.iconst X0.here hx rfl (Jvm.hb hby at_23) ?_
      exact k₀
    · refine ⟨(1 : Int32), by rw [if_neg hq], fun t₀ k₀ => ?_⟩
      refine XS.ifNo X0.here hx rfl (Jvm.hb hby at_16) rfl (XT.i0_eq_f hq) ?_
      refine XS.iconst X0.here hx rfl (Jvm.hb hby at_19) ?_
      refine XS.goto X0.here hx rfl (pc0 := 20) (pc' := 24) rfl (Jvm.hb hby at_20) (by decide) (by decide) ?_
      exact k₀
  refine own_go k2 ?_
  show Gm p e below s₁ m 24 #[iv p0, lv q1, .second, lv q2, .second, lv q3, .second, lv q4, .second, iv b1, .unset, .unset, .unset, .unset, .unset, .unset, .unset, .unset, .unset, .unset, .unset, .unset, .unset, .unset, .unset, .unset] [(.int b2)] _
  refine own_go (fun t₀ k₀ => XS.istore X0.here hx rfl (Jvm.hb hby at_24) rfl (l' := #[iv p0, lv q1, .second, lv q2, .second, lv q3, .second, lv q4, .second, iv b1, iv b2, .unset, .unset, .unset, .unset, .unset, .unset, .unset, .unset, .unset, .unset, .unset, .unset, .unset, .unset, .unset]) rfl k₀) ?_
  show Gm p e below s₁ m 26 #[iv p0, lv q1, .second, lv q2, .second, lv q3, .second, lv q4, .second, iv b1, iv b2, .unset, .unset, .unset, .unset, .unset, .unset, .unset, .unset, .unset, .unset, .unset, .unset, .unset, .unset, .unset] [] _
  refine own_go (fun t₀ k₀ => XS.iloadN X0.here hx rfl (Jvm.hb hby at_26) rfl k₀) ?_
  show Gm p e below s₁ m 27 #[iv p0, lv q1, .second, lv q2, .second, lv q3, .second, lv q4, .second, iv b1, iv b2, .unset, .unset, .unset, .unset, .unset, .unset, .unset, .unset, .unset, .unset, .unset, .unset, .unset, .unset, .unset] [(.int p0)] _
  refine own_go (fun t₀ k₀ => XS.iconst X0.here hx rfl (Jvm.hb hby at_27) k₀) ?_
  show Gm p e below s₁ m 28 #[iv p0, lv q1, .second, lv q2, .second, lv q3, .second, lv q4, .second, iv b1, iv b2, .unset, .unset, .unset, .unset, .unset, .unset, .unset, .unset, .unset, .unset, .unset, .unset, .unset, .unset, .unset] [(.int (4 : Int32)), (.int p0)] _
  refine own_go (fun t₀ k₀ => XS.iand X0.here hx rfl (Jvm.hb hby at_28) rfl k₀) ?_
  show Gm p e below s₁ m 29 #[iv p0, lv q1, .second, lv q2, .second, lv q3, .second, lv q4, .second, iv b1, iv b2, .unset, .unset, .unset, .unset, .unset, .unset, .unset, .unset, .unset, .unset, .unset, .unset, .unset, .unset, .unset] [(.int (p0 &&& (4 : Int32)))] _
  obtain ⟨b3, hb3, k3⟩ : ∃ z : Int32, z = (if (p0 &&& (4 : Int32)) = (0 : Int32) then (0 : Int32) else (1 : Int32)) ∧ ∀ t, Steps p.tables e below (s₁.setTop (mkF m 37 #[iv p0, lv q1, .second, lv q2, .second, lv q3, .second, lv q4, .second, iv b1, iv b2, .unset, .unset, .unset, .unset, .unset, .unset, .unset, .unset, .unset, .unset, .unset, .unset, .unset, .unset, .unset] [(.int z)])) t → Steps p.tables e below (s₁.setTop (mkF m 29 #[iv p0, lv q1, .second, lv q2, .second, lv q3, .second, lv q4, .second, iv b1, iv b2, .unset, .unset, .unset, .unset, .unset, .unset, .unset, .unset, .unset, .unset, .unset, .unset, .unset, .unset, .unset] [(.int (p0 &&& (4 : Int32)))])) t := by
    by_cases hq : (p0 &&& (4 : Int32)) = (0 : Int32)
    · refine ⟨(0 : Int32), by rw [if_pos hq], fun t₀ k₀ => ?_⟩
      refine XS.ifYes X0.here hx rfl (pc0 := 29) (pc' := 36) rfl (Jvm.hb hby at_29) rfl (XT.i0_eq_t hq) (by decide) (by decide) ?_
      refine XS.iconst X0.here hx rfl (Jvm.hb hby at_36) ?_
      exact k₀
    · refine ⟨(1 : Int32), by rw [if_neg hq], fun t₀ k₀ => ?_⟩
      refine XS.ifNo X0.here hx rfl (Jvm.hb hby at_29) rfl (XT.i0_eq_f hq) ?_
      refine XS.iconst X0.here hx rfl (Jvm.hb hby at_32) ?_
      refine XS.goto X0.here hx rfl (pc0 := 33) (pc' := 37) rfl (Jvm.hb hby at_33) (by decide) (by decide) ?_
      exact k₀
  refine own_go k3 ?_
  show Gm p e below s₁ m 37 #[iv p0, lv q1, .second, lv q2, .second, lv q3, .second, lv q4, .second, iv b1, iv b2, .unset, .unset, .unset, .unset, .unset, .unset, .unset, .unset, .unset, .unset, .unset, .unset, .unset, .unset, .unset] [(.int b3)] _
  refine own_go (fun t₀ k₀ => XS.istore X0.here hx rfl (Jvm.hb hby at_37) rfl (l' := #[iv p0, lv q1, .second, lv q2, .second, lv q3, .second, lv q4, .second, iv b1, iv b2, iv b3, .unset, .unset, .unset, .unset, .unset, .unset, .unset, .unset, .unset, .unset, .unset, .unset, .unset, .unset]) rfl k₀) ?_
  show Gm p e below s₁ m 39 #[iv p0, lv q1, .second, lv q2, .second, lv q3, .second, lv q4, .second, iv b1, iv b2, iv b3, .unset, .unset, .unset, .unset, .unset, .unset, .unset, .unset, .unset, .unset, .unset, .unset, .unset, .unset] [] _
  refine own_go (fun t₀ k₀ => XS.iloadN X0.here hx rfl (Jvm.hb hby at_39) rfl k₀) ?_
  show Gm p e below s₁ m 40 #[iv p0, lv q1, .second, lv q2, .second, lv q3, .second, lv q4, .second, iv b1, iv b2, iv b3, .unset, .unset, .unset, .unset, .unset, .unset, .unset, .unset, .unset, .unset, .unset, .unset, .unset, .unset] [(.int p0)] _
  refine own_go (fun t₀ k₀ => XS.bipush X0.here hx rfl (Jvm.hb hby at_40) k₀) ?_
  show Gm p e below s₁ m 42 #[iv p0, lv q1, .second, lv q2, .second, lv q3, .second, lv q4, .second, iv b1, iv b2, iv b3, .unset, .unset, .unset, .unset, .unset, .unset, .unset, .unset, .unset, .unset, .unset, .unset, .unset, .unset] [(.int (8 : Int32)), (.int p0)] _
  refine own_go (fun t₀ k₀ => XS.iand X0.here hx rfl (Jvm.hb hby at_42) rfl k₀) ?_
  show Gm p e below s₁ m 43 #[iv p0, lv q1, .second, lv q2, .second, lv q3, .second, lv q4, .second, iv b1, iv b2, iv b3, .unset, .unset, .unset, .unset, .unset, .unset, .unset, .unset, .unset, .unset, .unset, .unset, .unset, .unset] [(.int (p0 &&& (8 : Int32)))] _
  obtain ⟨b4, hb4, k4⟩ : ∃ z : Int32, z = (if (p0 &&& (8 : Int32)) = (0 : Int32) then (0 : Int32) else (1 : Int32)) ∧ ∀ t, Steps p.tables e below (s₁.setTop (mkF m 51 #[iv p0, lv q1, .second, lv q2, .second, lv q3, .second, lv q4, .second, iv b1, iv b2, iv b3, .unset, .unset, .unset, .unset, .unset, .unset, .unset, .unset, .unset, .unset, .unset, .unset, .unset, .unset] [(.int z)])) t → Steps p.tables e below (s₁.setTop (mkF m 43 #[iv p0, lv q1, .second, lv q2, .second, lv q3, .second, lv q4, .second, iv b1, iv b2, iv b3, .unset, .unset, .unset, .unset, .unset, .unset, .unset, .unset, .unset, .unset, .unset, .unset, .unset, .unset] [(.int (p0 &&& (8 : Int32)))])) t := by
    by_cases hq : (p0 &&& (8 : Int32)) = (0 : Int32)
    · refine ⟨(0 : Int32), by rw [if_pos hq], fun t₀ k₀ => ?_⟩
      refine XS.ifYes X0.here hx rfl (pc0 := 43) (pc' := 50) rfl (Jvm.hb hby at_43) rfl (XT.i0_eq_t hq) (by decide) (by decide) ?_
      refine XS.iconst X0.here hx rfl (Jvm.hb hby at_50) ?_
      exact k₀
    · refine ⟨(1 : Int32), by rw [if_neg hq], fun t₀ k₀ => ?_⟩
      refine XS.ifNo X0.here hx rfl (Jvm.hb hby at_43) rfl (XT.i0_eq_f hq) ?_
      refine XS.iconst X0.here hx rfl (Jvm.hb hby at_46) ?_
      refine XS.goto X0.here hx rfl (pc0 := 47) (pc' := 51) rfl (Jvm.hb hby at_47) (by decide) (by decide) ?_
      exact k₀
  refine own_go k4 ?_
  show Gm p e below s₁ m 51 #[iv p0, lv q1, .second, lv q2, .second, lv q3, .second, lv q4, .second, iv b1, iv b2, iv b3, .unset, .unset, .unset, .unset, .unset, .unset, .unset, .unset, .unset, .unset, .unset, .unset, .unset, .unset] [(.int b4)] _
  refine own_go (fun t₀ k₀ => XS.istore X0.here hx rfl (Jvm.hb hby at_51) rfl (l' := #[iv p0, lv q1, .second, lv q2, .second, lv q3, .second, lv q4, .second, iv b1, iv b2, iv b3, iv b4, .unset, .unset, .unset, .unset, .unset, .unset, .unset, .unset, .unset, .unset, .unset, .unset, .unset]) rfl k₀) ?_
  show Gm p e below s₁ m 53 #[iv p0, lv q1, .second, lv q2, .second, lv q3, .second, lv q4, .second, iv b1, iv b2, iv b3, iv b4, .unset, .unset, .unset, .unset, .unset, .unset, .unset, .unset, .unset, .unset, .unset, .unset, .unset] [] _
  refine own_go (fun t₀ k₀ => XS.iloadN X0.here hx rfl (Jvm.hb hby at_53) rfl k₀) ?_
  show Gm p e below s₁ m 54 #[iv p0, lv q1, .second, lv q2, .second, lv q3, .second, lv q4, .second, iv b1, iv b2, iv b3, iv b4, .unset, .unset, .unset, .unset, .unset, .unset, .unset, .unset, .unset, .unset, .unset, .unset, .unset] [(.int p0)] _
  refine own_go (fun t₀ k₀ => XS.bipush X0.here hx rfl (Jvm.hb hby at_54) k₀) ?_
  show Gm p e below s₁ m 56 #[iv p0, lv q1, .second, lv q2, .second, lv q3, .second, lv q4, .second, iv b1, iv b2, iv b3, iv b4, .unset, .unset, .unset, .unset, .unset, .unset, .unset, .unset, .unset, .unset, .unset, .unset, .unset] [(.int (16 : Int32)), (.int p0)] _
  refine own_go (fun t₀ k₀ => XS.iand X0.here hx rfl (Jvm.hb hby at_56) rfl k₀) ?_
  show Gm p e below s₁ m 57 #[iv p0, lv q1, .second, lv q2, .second, lv q3, .second, lv q4, .second, iv b1, iv b2, iv b3, iv b4, .unset, .unset, .unset, .unset, .unset, .unset, .unset, .unset, .unset, .unset, .unset, .unset, .unset] [(.int (p0 &&& (16 : Int32)))] _
  obtain ⟨b5, hb5, k5⟩ : ∃ z : Int32, z = (if (p0 &&& (16 : Int32)) = (0 : Int32) then (0 : Int32) else (1 : Int32)) ∧ ∀ t, Steps p.tables e below (s₁.setTop (mkF m 65 #[iv p0, lv q1, .second, lv q2, .second, lv q3, .second, lv q4, .second, iv b1, iv b2, iv b3, iv b4, .unset, .unset, .unset, .unset, .unset, .unset, .unset, .unset, .unset, .unset, .unset, .unset, .unset] [(.int z)])) t → Steps p.tables e below (s₁.setTop (mkF m 57 #[iv p0, lv q1, .second, lv q2, .second, lv q3, .second, lv q4, .second, iv b1, iv b2, iv b3, iv b4, .unset, .unset, .unset, .unset, .unset, .unset, .unset, .unset, .unset, .unset, .unset, .unset, .unset] [(.int (p0 &&& (16 : Int32)))])) t := by
    by_cases hq : (p0 &&& (16 : Int32)) = (0 : Int32)
    · refine ⟨(0 : Int32), by rw [if_pos hq], fun t₀ k₀ => ?_⟩
      refine XS.ifYes X0.here hx rfl (pc0 := 57) (pc' := 64) rfl (Jvm.hb hby at_57) rfl (XT.i0_eq_t hq) (by decide) (by decide) ?_
      refine XS.iconst X0.here hx rfl (Jvm.hb hby at_64) ?_
      exact k₀
    · refine ⟨(1 : Int32), by rw [if_neg hq], fun t₀ k₀ => ?_⟩
      refine XS.ifNo X0.here hx rfl (Jvm.hb hby at_57) rfl (XT.i0_eq_f hq) ?_
      refine XS.iconst X0.here hx rfl (Jvm.hb hby at_60) ?_
      refine XS.goto X0.here hx rfl (pc0 := 61) (pc' := 65) rfl (Jvm.hb hby at_61) (by decide) (by decide) ?_
      exact k₀
  refine own_go k5 ?_
  show Gm p e below s₁ m 65 #[iv p0, lv q1, .second, lv q2, .second, lv q3, .second, lv q4, .second, iv b1, iv b2, iv b3, iv b4, .unset, .unset, .unset, .unset, .unset, .unset, .unset, .unset, .unset, .unset, .unset, .unset, .unset] [(.int b5)] _
  refine own_go (fun t₀ k₀ => XS.istore X0.here hx rfl (Jvm.hb hby at_65) rfl (l' := #[iv p0, lv q1, .second, lv q2, .second, lv q3, .second, lv q4, .second, iv b1, iv b2, iv b3, iv b4, iv b5, .unset, .unset, .unset, .unset, .unset, .unset, .unset, .unset, .unset, .unset, .unset, .unset]) rfl k₀) ?_
  show Gm p e below s₁ m 67 #[iv p0, lv q1, .second, lv q2, .second, lv q3, .second, lv q4, .second, iv b1, iv b2, iv b3, iv b4, iv b5, .unset, .unset, .unset, .unset, .unset, .unset, .unset, .unset, .unset, .unset, .unset, .unset] [] _
  refine own_go (fun t₀ k₀ => XS.iloadN X0.here hx rfl (Jvm.hb hby at_67) rfl k₀) ?_
  show Gm p e below s₁ m 68 #[iv p0, lv q1, .second, lv q2, .second, lv q3, .second, lv q4, .second, iv b1, iv b2, iv b3, iv b4, iv b5, .unset, .unset, .unset, .unset, .unset, .unset, .unset, .unset, .unset, .unset, .unset, .unset] [(.int p0)] _
  refine own_go (fun t₀ k₀ => XS.bipush X0.here hx rfl (Jvm.hb hby at_68) k₀) ?_
  show Gm p e below s₁ m 70 #[iv p0, lv q1, .second, lv q2, .second, lv q3, .second, lv q4, .second, iv b1, iv b2, iv b3, iv b4, iv b5, .unset, .unset, .unset, .unset, .unset, .unset, .unset, .unset, .unset, .unset, .unset, .unset] [(.int (32 : Int32)), (.int p0)] _
  refine own_go (fun t₀ k₀ => XS.iand X0.here hx rfl (Jvm.hb hby at_70) rfl k₀) ?_
  show Gm p e below s₁ m 71 #[iv p0, lv q1, .second, lv q2, .second, lv q3, .second, lv q4, .second, iv b1, iv b2, iv b3, iv b4, iv b5, .unset, .unset, .unset, .unset, .unset, .unset, .unset, .unset, .unset, .unset, .unset, .unset] [(.int (p0 &&& (32 : Int32)))] _
  obtain ⟨b6, hb6, k6⟩ : ∃ z : Int32, z = (if (p0 &&& (32 : Int32)) = (0 : Int32) then (0 : Int32) else (1 : Int32)) ∧ ∀ t, Steps p.tables e below (s₁.setTop (mkF m 79 #[iv p0, lv q1, .second, lv q2, .second, lv q3, .second, lv q4, .second, iv b1, iv b2, iv b3, iv b4, iv b5, .unset, .unset, .unset, .unset, .unset, .unset, .unset, .unset, .unset, .unset, .unset, .unset] [(.int z)])) t → Steps p.tables e below (s₁.setTop (mkF m 71 #[iv p0, lv q1, .second, lv q2, .second, lv q3, .second, lv q4, .second, iv b1, iv b2, iv b3, iv b4, iv b5, .unset, .unset, .unset, .unset, .unset, .unset, .unset, .unset, .unset, .unset, .unset, .unset] [(.int (p0 &&& (32 : Int32)))])) t := by
    by_cases hq : (p0 &&& (32 : Int32)) = (0 : Int32)
    · refine ⟨(0 : Int32), by rw [if_pos hq], fun t₀ k₀ => ?_⟩
      refine XS.ifYes X0.here hx rfl (pc0 := 71) (pc' := 78) rfl (Jvm.hb hby at_71) rfl (XT.i0_eq_t hq) (by decide) (by decide) ?_
      refine XS.iconst X0.here hx rfl (Jvm.hb hby at_78) ?_
      exact k₀
    · refine ⟨(1 : Int32), by rw [if_neg hq], fun t₀ k₀ => ?_⟩
      refine XS.ifNo X0.here hx rfl (Jvm.hb hby at_71) rfl (XT.i0_eq_f hq) ?_
      refine XS.iconst X0.here hx rfl (Jvm.hb hby at_74) ?_
      refine XS.goto X0.here hx rfl (pc0 := 75) (pc' := 79) rfl (Jvm.hb hby at_75) (by decide) (by decide) ?_
      exact k₀
  refine own_go k6 ?_
  show Gm p e below s₁ m 79 #[iv p0, lv q1, .second, lv q2, .second, lv q3, .second, lv q4, .second, iv b1, iv b2, iv b3, iv b4, iv b5, .unset, .unset, .unset, .unset, .unset, .unset, .unset, .unset, .unset, .unset, .unset, .unset] [(.int b6)] _
  refine own_go (fun t₀ k₀ => XS.istore X0.here hx rfl (Jvm.hb hby at_79) rfl (l' := #[iv p0, lv q1, .second, lv q2, .second, lv q3, .second, lv q4, .second, iv b1, iv b2, iv b3, iv b4, iv b5, iv b6, .unset, .unset, .unset, .unset, .unset, .unset, .unset, .unset, .unset, .unset, .unset]) rfl k₀) ?_
  show Gm p e below s₁ m 81 #[iv p0, lv q1, .second, lv q2, .second, lv q3, .second, lv q4, .second, iv b1, iv b2, iv b3, iv b4, iv b5, iv b6, .unset, .unset, .unset, .unset, .unset, .unset, .unset, .unset, .unset, .unset, .unset] [] _
  refine own_go (fun t₀ k₀ => XS.lloadN X0.here hx rfl (Jvm.hb hby at_81) rfl k₀) ?_
  show Gm p e below s₁ m 82 #[iv p0, lv q1, .second, lv q2, .second, lv q3, .second, lv q4, .second, iv b1, iv b2, iv b3, iv b4, iv b5, iv b6, .unset, .unset, .unset, .unset, .unset, .unset, .unset, .unset, .unset, .unset, .unset] [(.long q1)] _
  refine own_go (fun t₀ k₀ => X0.ldc2J hx hown (mvT hZ (hw _ (List.mem_of_getElem? (i := 0) rfl))) rfl (Jvm.hb hby at_82) k₀) ?_
  show Gm p e below s₁ m 85 #[iv p0, lv q1, .second, lv q2, .second, lv q3, .second, lv q4, .second, iv b1, iv b2, iv b3, iv b4, iv b5, iv b6, .unset, .unset, .unset, .unset, .unset, .unset, .unset, .unset, .unset, .unset, .unset] [(.long (9223372036854775807 : Int64)), (.long q1)] _
  refine own_go (fun t₀ k₀ => XS.land X0.here hx rfl (Jvm.hb hby at_85) rfl k₀) ?_
  show Gm p e below s₁ m 86 #[iv p0, lv q1, .second, lv q2, .second, lv q3, .second, lv q4, .second, iv b1, iv b2, iv b3, iv b4, iv b5, iv b6, .unset, .unset, .unset, .unset, .unset, .unset, .unset, .unset, .unset, .unset, .unset] [(.long (q1 &&& (9223372036854775807 : Int64)))] _
  refine own_go (fun t₀ k₀ => XS.lstore X0.here hx rfl (Jvm.hb hby at_86) rfl (l' := #[iv p0, lv q1, .second, lv q2, .second, lv q3, .second, lv q4, .second, iv b1, iv b2, iv b3, iv b4, iv b5, iv b6, lv (q1 &&& (9223372036854775807 : Int64)), .second, .unset, .unset, .unset, .unset, .unset, .unset, .unset, .unset, .unset]) rfl k₀) ?_
  show Gm p e below s₁ m 88 #[iv p0, lv q1, .second, lv q2, .second, lv q3, .second, lv q4, .second, iv b1, iv b2, iv b3, iv b4, iv b5, iv b6, lv (q1 &&& (9223372036854775807 : Int64)), .second, .unset, .unset, .unset, .unset, .unset, .unset, .unset, .unset, .unset] [] _
  obtain ⟨r1, h_r1⟩ : ∃ z : Int64, z = (q1 &&& (9223372036854775807 : Int64)) := ⟨_, rfl⟩
  rw [← h_r1]
  have hn_r1 : ¬ r1 < 0 := by rw [h_r1]; exact own_nn _
  show Gm p e below s₁ m 88 #[iv p0, lv q1, .second, lv q2, .second, lv q3, .second, lv q4, .second, iv b1, iv b2, iv b3, iv b4, iv b5, iv b6, lv r1, .second, .unset, .unset, .unset, .unset, .unset, .unset, .unset, .unset, .unset] [] _
  refine own_go (fun t₀ k₀ => XS.iload X0.here hx rfl (Jvm.hb hby at_88) rfl k₀) ?_
  obtain ⟨z8, hz8, k8⟩ : ∃ z : Int64, z = (if b5 = (0 : Int32) then (q3 &&& (9223372036854775807 : Int64)) else (r1)) ∧ ∀ P, Go p e below (s₁.setTop (mkF m 104 #[iv p0, lv q1, .second, lv q2, .second, lv q3, .second, lv q4, .second, iv b1, iv b2, iv b3, iv b4, iv b5, iv b6, lv r1, .second, .unset, .unset, .unset, .unset, .unset, .unset, .unset, .unset, .unset] [(.long z)])) P → Go p e below (s₁.setTop (mkF m 90 #[iv p0, lv q1, .second, lv q2, .second, lv q3, .second, lv q4, .second, iv b1, iv b2, iv b3, iv b4, iv b5, iv b6, lv r1, .second, .unset, .unset, .unset, .unset, .unset, .unset, .unset, .unset, .unset] [(.int b5)])) P := by
    refine ⟨_, rfl, fun P kP => ?_⟩
    show Gm p e below s₁ m 90 #[iv p0, lv q1, .second, lv q2, .second, lv q3, .second, lv q4, .second, iv b1, iv b2, iv b3, iv b4, iv b5, iv b6, lv r1, .second, .unset, .unset, .unset, .unset, .unset, .unset, .unset, .unset, .unset] [(.int b5)] _
    by_cases c9 : b5 = (0 : Int32)
    · have hfork := trivial
      refine own_go (fun t₀ k₀ => XS.ifYes X0.here hx rfl (pc0 := 90) (pc' := 98) rfl (Jvm.hb hby at_90) rfl (XT.i0_eq_t c9) (by decide) (by decide) k₀) ?_
      show Gm p e below s₁ m 98 #[iv p0, lv q1, .second, lv q2, .second, lv q3, .second, lv q4, .second, iv b1, iv b2, iv b3, iv b4, iv b5, iv b6, lv r1, .second, .unset, .unset, .unset, .unset, .unset, .unset, .unset, .unset, .unset] [] _
      refine own_go (fun t₀ k₀ => XS.lload X0.here hx rfl (Jvm.hb hby at_98) rfl k₀) ?_
      show Gm p e below s₁ m 100 #[iv p0, lv q1, .second, lv q2, .second, lv q3, .second, lv q4, .second, iv b1, iv b2, iv b3, iv b4, iv b5, iv b6, lv r1, .second, .unset, .unset, .unset, .unset, .unset, .unset, .unset, .unset, .unset] [(.long q3)] _
      refine own_go (fun t₀ k₀ => X0.ldc2J hx hown (mvT hZ (hw _ (List.mem_of_getElem? (i := 0) rfl))) rfl (Jvm.hb hby at_100) k₀) ?_
      show Gm p e below s₁ m 103 #[iv p0, lv q1, .second, lv q2, .second, lv q3, .second, lv q4, .second, iv b1, iv b2, iv b3, iv b4, iv b5, iv b6, lv r1, .second, .unset, .unset, .unset, .unset, .unset, .unset, .unset, .unset, .unset] [(.long (9223372036854775807 : Int64)), (.long q3)] _
      refine own_go (fun t₀ k₀ => XS.land X0.here hx rfl (Jvm.hb hby at_103) rfl k₀) ?_
      rw [if_pos c9] at kP
      exact kP
    · have hfork := trivial
      refine own_go (fun t₀ k₀ => XS.ifNo X0.here hx rfl (Jvm.hb hby at_90) rfl (XT.i0_eq_f c9) k₀) ?_
      show Gm p e below s₁ m 93 #[iv p0, lv q1, .second, lv q2, .second, lv q3, .second, lv q4, .second, iv b1, iv b2, iv b3, iv b4, iv b5, iv b6, lv r1, .second, .unset, .unset, .unset, .unset, .unset, .unset, .unset, .unset, .unset] [] _
      refine own_go (fun t₀ k₀ => XS.lload X0.here hx rfl (Jvm.hb hby at_93) rfl k₀) ?_
      show Gm p e below s₁ m 95 #[iv p0, lv q1, .second, lv q2, .second, lv q3, .second, lv q4, .second, iv b1, iv b2, iv b3, iv b4, iv b5, iv b6, lv r1, .second, .unset, .unset, .unset, .unset, .unset, .unset, .unset, .unset, .unset] [(.long r1)] _
      refine own_go (fun t₀ k₀ => XS.goto X0.here hx rfl (pc0 := 95) (pc' := 104) rfl (Jvm.hb hby at_95) (by decide) (by decide) k₀) ?_
      rw [if_neg c9] at kP
      exact kP
  refine k8 _ ?_
  show Gm p e below s₁ m 104 #[iv p0, lv q1, .second, lv q2, .second, lv q3, .second, lv q4, .second, iv b1, iv b2, iv b3, iv b4, iv b5, iv b6, lv r1, .second, .unset, .unset, .unset, .unset, .unset, .unset, .unset, .unset, .unset] [(.long z8)] _
  refine own_go (fun t₀ k₀ => XS.lstore X0.here hx rfl (Jvm.hb hby at_104) rfl (l' := #[iv p0, lv q1, .second, lv q2, .second, lv q3, .second, lv q4, .second, iv b1, iv b2, iv b3, iv b4, iv b5, iv b6, lv r1, .second, lv z8, .second, .unset, .unset, .unset, .unset, .unset, .unset, .unset]) rfl k₀) ?_
  have hn_z8 : ¬ z8 < 0 := by rw [hz8]; (repeat' split) <;> first | exact own_nn _ | exact hn_r1
  show Gm p e below s₁ m 106 #[iv p0, lv q1, .second, lv q2, .second, lv q3, .second, lv q4, .second, iv b1, iv b2, iv b3, iv b4, iv b5, iv b6, lv r1, .second, lv z8, .second, .unset, .unset, .unset, .unset, .unset, .unset, .unset] [] _
  refine own_go (fun t₀ k₀ => XS.iload X0.here hx rfl (Jvm.hb hby at_106) rfl k₀) ?_
  show Gm p e below s₁ m 108 #[iv p0, lv q1, .second, lv q2, .second, lv q3, .second, lv q4, .second, iv b1, iv b2, iv b3, iv b4, iv b5, iv b6, lv r1, .second, lv z8, .second, .unset, .unset, .unset, .unset, .unset, .unset, .unset] [(.int b1)] _
  refine own_go (fun t₀ k₀ => XS.iload X0.here hx rfl (Jvm.hb hby at_108) rfl k₀) ?_
  show Gm p e below s₁ m 110 #[iv p0, lv q1, .second, lv q2, .second, lv q3, .second, lv q4, .second, iv b1, iv b2, iv b3, iv b4, iv b5, iv b6, lv r1, .second, lv z8, .second, .unset, .unset, .unset, .unset, .unset, .unset, .unset] [(.int b2), (.int b1)] _
  refine own_go (fun t₀ k₀ => XS.lloadN X0.here hx rfl (Jvm.hb hby at_110) rfl k₀) ?_
  show Gm p e below s₁ m 111 #[iv p0, lv q1, .second, lv q2, .second, lv q3, .second, lv q4, .second, iv b1, iv b2, iv b3, iv b4, iv b5, iv b6, lv r1, .second, lv z8, .second, .unset, .unset, .unset, .unset, .unset, .unset, .unset] [(.long q2), (.int b2), (.int b1)] _
  obtain ⟨_, _, ⟨T10, L10, k10, n10⟩, -, X10, ⟨Lc10, hQ10, l10, y10, z10⟩, st10⟩ := Jvm.LawKit.callS X0 hx (y := (⟨"com/example/libbrake/libbrake/DecisionEqualsPinLaw", "waitFor", "(ZZJ)J"⟩ : MethodName)) hown (mvT hZ (hw _ (List.mem_of_getElem? (i := 1) rfl))) (mvT hZ (hw _ (List.mem_of_getElem? (i := 2) rfl))) (mvT hZ (hw _ (List.mem_of_getElem? (i := 3) rfl))) (mvT hZ (hw _ (List.mem_of_getElem? (i := 4) rfl))) (by decide) (backOf (W := 0) (rm1 l Z a0 hw [] b1 b2 q2 h0 n0 Z0) hZ (hw _ (List.mem_of_getElem? (i := 4) rfl)) (hw _ (List.mem_of_getElem? (i := 3) rfl)) (by decide) (by decide)) (g := (mkF m 111 #[iv p0, lv q1, .second, lv q2, .second, lv q3, .second, lv q4, .second, iv b1, iv b2, iv b3, iv b4, iv b5, iv b6, lv r1, .second, lv z8, .second, .unset, .unset, .unset, .unset, .unset, .unset, .unset] [(.long q2), (.int b2), (.int b1)])) rfl (by rw [hml]; rfl) (argsL := [(.int b1), (.int b2), (.long q2)]) (rest := []) (lenOf own_pd2 rfl) rfl (by show 2 * 0 + _ ≤ _; exact Nat.le_of_eq rfl) (Jvm.hb hby at_111) (fun _ _ => ⟨rfl, e0, (by decide : 0 + 0 ≤ _), (by decide : 0 + 0 ≤ _)⟩)
  dsimp only [Pt.U, Pt.locs, Pt.cells, Pt.slots] at X10 l10 y10 z10 st10 hQ10
  subst l10 y10 z10
  obtain ⟨rfl, Nq10, eq10⟩ := hQ10
  have N10 := Fr.app N0 Nq10
  have e10 : T10.heap = h0 := eq10
  refine own_go st10 ?_
  show Gm p e below T10 m 114 #[iv p0, lv q1, .second, lv q2, .second, lv q3, .second, lv q4, .second, iv b1, iv b2, iv b3, iv b4, iv b5, iv b6, lv r1, .second, lv z8, .second, .unset, .unset, .unset, .unset, .unset, .unset, .unset] [(.long (fW b1 b2 q2))] _
  refine own_go (fun t₀ k₀ => XS.lstore X10.here hx rfl (Jvm.hb hby at_114) rfl (l' := #[iv p0, lv q1, .second, lv q2, .second, lv q3, .second, lv q4, .second, iv b1, iv b2, iv b3, iv b4, iv b5, iv b6, lv r1, .second, lv z8, .second, lv (fW b1 b2 q2), .second, .unset, .unset, .unset, .unset, .unset]) rfl k₀) ?_
  show Gm p e below T10 m 116 #[iv p0, lv q1, .second, lv q2, .second, lv q3, .second, lv q4, .second, iv b1, iv b2, iv b3, iv b4, iv b5, iv b6, lv r1, .second, lv z8, .second, lv (fW b1 b2 q2), .second, .unset, .unset, .unset, .unset, .unset] [] _
  obtain ⟨w1, h_w1⟩ : ∃ z : Int64, z = (fW b1 b2 q2) := ⟨_, rfl⟩
  rw [← h_w1]
  show Gm p e below T10 m 116 #[iv p0, lv q1, .second, lv q2, .second, lv q3, .second, lv q4, .second, iv b1, iv b2, iv b3, iv b4, iv b5, iv b6, lv r1, .second, lv z8, .second, lv w1, .second, .unset, .unset, .unset, .unset, .unset] [] _
  refine own_go (fun t₀ k₀ => XS.iload X10.here hx rfl (Jvm.hb hby at_116) rfl k₀) ?_
  show Gm p e below T10 m 118 #[iv p0, lv q1, .second, lv q2, .second, lv q3, .second, lv q4, .second, iv b1, iv b2, iv b3, iv b4, iv b5, iv b6, lv r1, .second, lv z8, .second, lv w1, .second, .unset, .unset, .unset, .unset, .unset] [(.int b3)] _
  refine own_go (fun t₀ k₀ => XS.iload X10.here hx rfl (Jvm.hb hby at_118) rfl k₀) ?_
  show Gm p e below T10 m 120 #[iv p0, lv q1, .second, lv q2, .second, lv q3, .second, lv q4, .second, iv b1, iv b2, iv b3, iv b4, iv b5, iv b6, lv r1, .second, lv z8, .second, lv w1, .second, .unset, .unset, .unset, .unset, .unset] [(.int b4), (.int b3)] _
  refine own_go (fun t₀ k₀ => XS.iload X10.here hx rfl (Jvm.hb hby at_120) rfl k₀) ?_
  obtain ⟨z12, hz12, k12⟩ : ∃ z : Int64, z = (if b6 = (0 : Int32) then q4 else (q2)) ∧ ∀ P, Go p e below (T10.setTop (mkF m 131 #[iv p0, lv q1, .second, lv q2, .second, lv q3, .second, lv q4, .second, iv b1, iv b2, iv b3, iv b4, iv b5, iv b6, lv r1, .second, lv z8, .second, lv w1, .second, .unset, .unset, .unset, .unset, .unset] [(.long z), (.int b4), (.int b3)])) P → Go p e below (T10.setTop (mkF m 122 #[iv p0, lv q1, .second, lv q2, .second, lv q3, .second, lv q4, .second, iv b1, iv b2, iv b3, iv b4, iv b5, iv b6, lv r1, .second, lv z8, .second, lv w1, .second, .unset, .unset, .unset, .unset, .unset] [(.int b6), (.int b4), (.int b3)])) P := by
    refine ⟨_, rfl, fun P kP => ?_⟩
    show Gm p e below T10 m 122 #[iv p0, lv q1, .second, lv q2, .second, lv q3, .second, lv q4, .second, iv b1, iv b2, iv b3, iv b4, iv b5, iv b6, lv r1, .second, lv z8, .second, lv w1, .second, .unset, .unset, .unset, .unset, .unset] [(.int b6), (.int b4), (.int b3)] _
    by_cases c13 : b6 = (0 : Int32)
    · have hfork := trivial
      refine own_go (fun t₀ k₀ => XS.ifYes X10.here hx rfl (pc0 := 122) (pc' := 129) rfl (Jvm.hb hby at_122) rfl (XT.i0_eq_t c13) (by decide) (by decide) k₀) ?_
      show Gm p e below T10 m 129 #[iv p0, lv q1, .second, lv q2, .second, lv q3, .second, lv q4, .second, iv b1, iv b2, iv b3, iv b4, iv b5, iv b6, lv r1, .second, lv z8, .second, lv w1, .second, .unset, .unset, .unset, .unset, .unset] [(.int b4), (.int b3)] _
      refine own_go (fun t₀ k₀ => XS.lload X10.here hx rfl (Jvm.hb hby at_129) rfl k₀) ?_
      rw [if_pos c13] at kP
      exact kP
    · have hfork := trivial
      refine own_go (fun t₀ k₀ => XS.ifNo X10.here hx rfl (Jvm.hb hby at_122) rfl (XT.i0_eq_f c13) k₀) ?_
      show Gm p e below T10 m 125 #[iv p0, lv q1, .second, lv q2, .second, lv q3, .second, lv q4, .second, iv b1, iv b2, iv b3, iv b4, iv b5, iv b6, lv r1, .second, lv z8, .second, lv w1, .second, .unset, .unset, .unset, .unset, .unset] [(.int b4), (.int b3)] _
      refine own_go (fun t₀ k₀ => XS.lloadN X10.here hx rfl (Jvm.hb hby at_125) rfl k₀) ?_
      show Gm p e below T10 m 126 #[iv p0, lv q1, .second, lv q2, .second, lv q3, .second, lv q4, .second, iv b1, iv b2, iv b3, iv b4, iv b5, iv b6, lv r1, .second, lv z8, .second, lv w1, .second, .unset, .unset, .unset, .unset, .unset] [(.long q2), (.int b4), (.int b3)] _
      refine own_go (fun t₀ k₀ => XS.goto X10.here hx rfl (pc0 := 126) (pc' := 131) rfl (Jvm.hb hby at_126) (by decide) (by decide) k₀) ?_
      rw [if_neg c13] at kP
      exact kP
  refine k12 _ ?_
  show Gm p e below T10 m 131 #[iv p0, lv q1, .second, lv q2, .second, lv q3, .second, lv q4, .second, iv b1, iv b2, iv b3, iv b4, iv b5, iv b6, lv r1, .second, lv z8, .second, lv w1, .second, .unset, .unset, .unset, .unset, .unset] [(.long z12), (.int b4), (.int b3)] _
  obtain ⟨_, _, ⟨T14, L14, k14, n14⟩, -, X14, ⟨Lc14, hQ14, l14, y14, z14⟩, st14⟩ := Jvm.LawKit.callS X10 hx (y := (⟨"com/example/libbrake/libbrake/DecisionEqualsPinLaw", "waitFor", "(ZZJ)J"⟩ : MethodName)) hown (mvT hZ (hw _ (List.mem_of_getElem? (i := 1) rfl))) (mvT hZ (hw _ (List.mem_of_getElem? (i := 2) rfl))) (mvT hZ (hw _ (List.mem_of_getElem? (i := 3) rfl))) (mvT hZ (hw _ (List.mem_of_getElem? (i := 4) rfl))) (by decide) (backOf (W := 0) (rm1 l Z a0 hw [] b3 b4 z12 h0 n0 Z0) hZ (hw _ (List.mem_of_getElem? (i := 4) rfl)) (hw _ (List.mem_of_getElem? (i := 3) rfl)) (by decide) (by decide)) (g := (mkF m 131 #[iv p0, lv q1, .second, lv q2, .second, lv q3, .second, lv q4, .second, iv b1, iv b2, iv b3, iv b4, iv b5, iv b6, lv r1, .second, lv z8, .second, lv w1, .second, .unset, .unset, .unset, .unset, .unset] [(.long z12), (.int b4), (.int b3)])) rfl (by rw [hml]; rfl) (argsL := [(.int b3), (.int b4), (.long z12)]) (rest := []) (lenOf own_pd2 rfl) rfl (by show 2 * 0 + _ ≤ _; exact Nat.le_of_eq rfl) (Jvm.hb hby at_131) (fun _ _ => ⟨rfl, e10, (by decide : 0 + 0 ≤ _), (by decide : 0 + 0 ≤ _)⟩)
  dsimp only [Pt.U, Pt.locs, Pt.cells, Pt.slots] at X14 l14 y14 z14 st14 hQ14
  subst l14 y14 z14
  obtain ⟨rfl, Nq14, eq14⟩ := hQ14
  have N14 := Fr.app N10 Nq14
  have e14 : T14.heap = h0 := eq14
  refine own_go st14 ?_
  show Gm p e below T14 m 134 #[iv p0, lv q1, .second, lv q2, .second, lv q3, .second, lv q4, .second, iv b1, iv b2, iv b3, iv b4, iv b5, iv b6, lv r1, .second, lv z8, .second, lv w1, .second, .unset, .unset, .unset, .unset, .unset] [(.long (fW b3 b4 z12))] _
  refine own_go (fun t₀ k₀ => XS.lstore X14.here hx rfl (Jvm.hb hby at_134) rfl (l' := #[iv p0, lv q1, .second, lv q2, .second, lv q3, .second, lv q4, .second, iv b1, iv b2, iv b3, iv b4, iv b5, iv b6, lv r1, .second, lv z8, .second, lv w1, .second, lv (fW b3 b4 z12), .second, .unset, .unset, .unset]) rfl k₀) ?_
  show Gm p e below T14 m 136 #[iv p0, lv q1, .second, lv q2, .second, lv q3, .second, lv q4, .second, iv b1, iv b2, iv b3, iv b4, iv b5, iv b6, lv r1, .second, lv z8, .second, lv w1, .second, lv (fW b3 b4 z12), .second, .unset, .unset, .unset] [] _
  obtain ⟨w2, h_w2⟩ : ∃ z : Int64, z = (fW b3 b4 z12) := ⟨_, rfl⟩
  rw [← h_w2]
  show Gm p e below T14 m 136 #[iv p0, lv q1, .second, lv q2, .second, lv q3, .second, lv q4, .second, iv b1, iv b2, iv b3, iv b4, iv b5, iv b6, lv r1, .second, lv z8, .second, lv w1, .second, lv w2, .second, .unset, .unset, .unset] [] _
  obtain ⟨T16, h16, X16, e16, E16, A16, D16, -, st16⟩ := newO X14 hx hZ hown (hw _ (List.mem_of_getElem? (i := 5) rfl)) (hw _ (List.mem_of_getElem? (i := 6) rfl)) (hw _ (List.mem_of_getElem? (i := 7) rfl)) e14 (g := (mkF m 136 #[iv p0, lv q1, .second, lv q2, .second, lv q3, .second, lv q4, .second, iv b1, iv b2, iv b3, iv b4, iv b5, iv b6, lv r1, .second, lv z8, .second, lv w1, .second, lv w2, .second, .unset, .unset, .unset] [])) rfl (Jvm.hb hby at_136) (by decide) (by decide)
  obtain ⟨b16, g16⟩ : ∃ z, z = h0.size := ⟨_, rfl⟩
  rw [← g16] at A16 D16 st16
  have g_b16 : n0 ≤ b16 := Nat.le_trans Z0 (Nat.le_of_eq g16.symm)
  have Z16 : n0 ≤ h16.size := Nat.le_trans Z0 E16.1
  have F_allowed_b16 : Fld Z h16 b16 "com/example/libbrake/libbrake/Decision" "allowed" "Z" (.int (0 : Int32)) := D16 (Or.inr (hw _ (List.mem_of_getElem? (i := 15) rfl))) (ty := .boolean) (by decide)
  have F_remaining_b16 : Fld Z h16 b16 "com/example/libbrake/libbrake/Decision" "remaining" "J" (.long (0 : Int64)) := D16 (Or.inr (hw _ (List.mem_of_getElem? (i := 17) rfl))) (ty := .long) (by decide)
  have F_waitMillis_b16 : Fld Z h16 b16 "com/example/libbrake/libbrake/Decision" "waitMillis" "J" (.long (0 : Int64)) := D16 (Or.inr (hw _ (List.mem_of_getElem? (i := 19) rfl))) (ty := .long) (by decide)
  have F_fallback_b16 : Fld Z h16 b16 "com/example/libbrake/libbrake/Decision" "fallback" "Z" (.int (0 : Int32)) := D16 (Or.inr (hw _ (List.mem_of_getElem? (i := 21) rfl))) (ty := .boolean) (by decide)
  refine own_go st16 ?_
  show Gm p e below T16 m 139 #[iv p0, lv q1, .second, lv q2, .second, lv q3, .second, lv q4, .second, iv b1, iv b2, iv b3, iv b4, iv b5, iv b6, lv r1, .second, lv z8, .second, lv w1, .second, lv w2, .second, .unset, .unset, .unset] [(.ref b16)] _
  refine own_go (fun t₀ k₀ => XS.dup X16.here hx rfl (Jvm.hb hby at_139) rfl rfl k₀) ?_
  show Gm p e below T16 m 140 #[iv p0, lv q1, .second, lv q2, .second, lv q3, .second, lv q4, .second, iv b1, iv b2, iv b3, iv b4, iv b5, iv b6, lv r1, .second, lv z8, .second, lv w1, .second, lv w2, .second, .unset, .unset, .unset] [(.ref b16), (.ref b16)] _
  refine own_go (fun t₀ k₀ => XS.iload X16.here hx rfl (Jvm.hb hby at_140) rfl k₀) ?_
  show Gm p e below T16 m 142 #[iv p0, lv q1, .second, lv q2, .second, lv q3, .second, lv q4, .second, iv b1, iv b2, iv b3, iv b4, iv b5, iv b6, lv r1, .second, lv z8, .second, lv w1, .second, lv w2, .second, .unset, .unset, .unset] [(.int b1), (.ref b16), (.ref b16)] _
  refine own_go (fun t₀ k₀ => XS.lload X16.here hx rfl (Jvm.hb hby at_142) rfl k₀) ?_
  show Gm p e below T16 m 144 #[iv p0, lv q1, .second, lv q2, .second, lv q3, .second, lv q4, .second, iv b1, iv b2, iv b3, iv b4, iv b5, iv b6, lv r1, .second, lv z8, .second, lv w1, .second, lv w2, .second, .unset, .unset, .unset] [(.long r1), (.int b1), (.ref b16), (.ref b16)] _
  refine own_go (fun t₀ k₀ => XS.lload X16.here hx rfl (Jvm.hb hby at_144) rfl k₀) ?_
  show Gm p e below T16 m 146 #[iv p0, lv q1, .second, lv q2, .second, lv q3, .second, lv q4, .second, iv b1, iv b2, iv b3, iv b4, iv b5, iv b6, lv r1, .second, lv z8, .second, lv w1, .second, lv w2, .second, .unset, .unset, .unset] [(.long w1), (.long r1), (.int b1), (.ref b16), (.ref b16)] _
  refine own_go (fun t₀ k₀ => XS.iload X16.here hx rfl (Jvm.hb hby at_146) rfl k₀) ?_
  show Gm p e below T16 m 148 #[iv p0, lv q1, .second, lv q2, .second, lv q3, .second, lv q4, .second, iv b1, iv b2, iv b3, iv b4, iv b5, iv b6, lv r1, .second, lv z8, .second, lv w1, .second, lv w2, .second, .unset, .unset, .unset] [(.int b2), (.long w1), (.long r1), (.int b1), (.ref b16), (.ref b16)] _
  obtain ⟨_, _, ⟨T17, L17, k17, n17⟩, -, X17, ⟨Lc17, hQ17, l17, y17, z17⟩, st17⟩ := X16.specialBack hx (y := (⟨"com/example/libbrake/libbrake/Decision", "<init>", "(ZJJZ)V"⟩ : MethodName)) rfl hown (mvT hZ (hw _ (List.mem_of_getElem? (i := 8) rfl))) (mvT hZ (hw _ (List.mem_of_getElem? (i := 9) rfl))) (mvT hZ (hw _ (List.mem_of_getElem? (i := 10) rfl))) (by decide) (backOf (W := 1) (rm2 l Z a0 hw [] b16 b1 r1 w1 b2 h16 n0 Z16 A16 F_allowed_b16 F_remaining_b16 F_waitMillis_b16 F_fallback_b16 g_b16 hn_r1 (own_w1 h_w1) (own_w2 h_w1) (own_w3 h_w1) (by rw [hb1]; split <;> simp) (by rw [hb2]; split <;> simp)) hZ (hw _ (List.mem_of_getElem? (i := 10) rfl)) (hw _ (List.mem_of_getElem? (i := 7) rfl)) (by decide) (by decide)) (g := (mkF m 148 #[iv p0, lv q1, .second, lv q2, .second, lv q3, .second, lv q4, .second, iv b1, iv b2, iv b3, iv b4, iv b5, iv b6, lv r1, .second, lv z8, .second, lv w1, .second, lv w2, .second, .unset, .unset, .unset] [(.int b2), (.long w1), (.long r1), (.int b1), (.ref b16), (.ref b16)])) rfl (by rw [hml]; rfl) (Steps.refl _) (a := b16) (argsL := [(.int b1), (.long r1), (.long w1), (.int b2)]) (rest := [(.ref b16)]) (lenOf own_pd3 rfl) rfl (by show 2 * 0 + _ ≤ _; exact Nat.le_of_eq rfl) (Jvm.hb hby at_148) (fun _ _ => ⟨rfl, e16, (by decide : 1 + 0 ≤ _), (by decide : 4 + 0 ≤ _)⟩)
  dsimp only [Pt.U, Pt.locs, Pt.cells, Pt.slots] at X17 l17 y17 z17 st17 hQ17
  subst l17 y17 z17
  obtain ⟨rfl, Nq17, Kc17, Ec17, Fc_allowed17, Fc_remaining17, Fc_waitMillis17, Fc_fallback17⟩ := hQ17
  have N17 := Fr.app N14 Nq17
  refine own_go (fun t k => st17.trans k) ?_
  have Z17 : n0 ≤ T17.heap.size := Nat.le_trans Z16 Kc17.1
  show Gm p e below T17 m 151 #[iv p0, lv q1, .second, lv q2, .second, lv q3, .second, lv q4, .second, iv b1, iv b2, iv b3, iv b4, iv b5, iv b6, lv r1, .second, lv z8, .second, lv w1, .second, lv w2, .second, .unset, .unset, .unset] [(.ref b16)] _
  refine own_go (fun t₀ k₀ => XS.astore X17.here hx rfl (Jvm.hb hby at_151) rfl rfl (l' := #[iv p0, lv q1, .second, lv q2, .second, lv q3, .second, lv q4, .second, iv b1, iv b2, iv b3, iv b4, iv b5, iv b6, lv r1, .second, lv z8, .second, lv w1, .second, lv w2, .second, rv b16, .unset, .unset]) rfl k₀) ?_
  show Gm p e below T17 m 153 #[iv p0, lv q1, .second, lv q2, .second, lv q3, .second, lv q4, .second, iv b1, iv b2, iv b3, iv b4, iv b5, iv b6, lv r1, .second, lv z8, .second, lv w1, .second, lv w2, .second, rv b16, .unset, .unset] [] _
  obtain ⟨T18, h18, X18, e18, E18, A18, D18, -, st18⟩ := newO X17 hx hZ hown (hw _ (List.mem_of_getElem? (i := 5) rfl)) (hw _ (List.mem_of_getElem? (i := 6) rfl)) (hw _ (List.mem_of_getElem? (i := 7) rfl)) rfl (g := (mkF m 153 #[iv p0, lv q1, .second, lv q2, .second, lv q3, .second, lv q4, .second, iv b1, iv b2, iv b3, iv b4, iv b5, iv b6, lv r1, .second, lv z8, .second, lv w1, .second, lv w2, .second, rv b16, .unset, .unset] [])) rfl (Jvm.hb hby at_153) (by decide) (by decide)
  obtain ⟨b18, g18⟩ : ∃ z, z = T17.heap.size := ⟨_, rfl⟩
  rw [← g18] at A18 D18 st18
  have g_b18 : n0 ≤ b18 := Nat.le_trans Z17 (Nat.le_of_eq g18.symm)
  have ne_b16_b18 : b16 ≠ b18 := Nat.ne_of_lt (Nat.lt_of_lt_of_le Ec17.lt (Nat.le_of_eq g18.symm))
  have Z18 : n0 ≤ h18.size := Nat.le_trans Z17 E18.1
  have F_allowed_b18 : Fld Z h18 b18 "com/example/libbrake/libbrake/Decision" "allowed" "Z" (.int (0 : Int32)) := D18 (Or.inr (hw _ (List.mem_of_getElem? (i := 15) rfl))) (ty := .boolean) (by decide)
  have F_remaining_b18 : Fld Z h18 b18 "com/example/libbrake/libbrake/Decision" "remaining" "J" (.long (0 : Int64)) := D18 (Or.inr (hw _ (List.mem_of_getElem? (i := 17) rfl))) (ty := .long) (by decide)
  have F_waitMillis_b18 : Fld Z h18 b18 "com/example/libbrake/libbrake/Decision" "waitMillis" "J" (.long (0 : Int64)) := D18 (Or.inr (hw _ (List.mem_of_getElem? (i := 19) rfl))) (ty := .long) (by decide)
  have F_fallback_b18 : Fld Z h18 b18 "com/example/libbrake/libbrake/Decision" "fallback" "Z" (.int (0 : Int32)) := D18 (Or.inr (hw _ (List.mem_of_getElem? (i := 21) rfl))) (ty := .boolean) (by decide)
  refine own_go st18 ?_
  show Gm p e below T18 m 156 #[iv p0, lv q1, .second, lv q2, .second, lv q3, .second, lv q4, .second, iv b1, iv b2, iv b3, iv b4, iv b5, iv b6, lv r1, .second, lv z8, .second, lv w1, .second, lv w2, .second, rv b16, .unset, .unset] [(.ref b18)] _
  refine own_go (fun t₀ k₀ => XS.dup X18.here hx rfl (Jvm.hb hby at_156) rfl rfl k₀) ?_
  show Gm p e below T18 m 157 #[iv p0, lv q1, .second, lv q2, .second, lv q3, .second, lv q4, .second, iv b1, iv b2, iv b3, iv b4, iv b5, iv b6, lv r1, .second, lv z8, .second, lv w1, .second, lv w2, .second, rv b16, .unset, .unset] [(.ref b18), (.ref b18)] _
  refine own_go (fun t₀ k₀ => XS.iload X18.here hx rfl (Jvm.hb hby at_157) rfl k₀) ?_
  show Gm p e below T18 m 159 #[iv p0, lv q1, .second, lv q2, .second, lv q3, .second, lv q4, .second, iv b1, iv b2, iv b3, iv b4, iv b5, iv b6, lv r1, .second, lv z8, .second, lv w1, .second, lv w2, .second, rv b16, .unset, .unset] [(.int b3), (.ref b18), (.ref b18)] _
  refine own_go (fun t₀ k₀ => XS.lload X18.here hx rfl (Jvm.hb hby at_159) rfl k₀) ?_
  show Gm p e below T18 m 161 #[iv p0, lv q1, .second, lv q2, .second, lv q3, .second, lv q4, .second, iv b1, iv b2, iv b3, iv b4, iv b5, iv b6, lv r1, .second, lv z8, .second, lv w1, .second, lv w2, .second, rv b16, .unset, .unset] [(.long z8), (.int b3), (.ref b18), (.ref b18)] _
  refine own_go (fun t₀ k₀ => XS.lload X18.here hx rfl (Jvm.hb hby at_161) rfl k₀) ?_
  show Gm p e below T18 m 163 #[iv p0, lv q1, .second, lv q2, .second, lv q3, .second, lv q4, .second, iv b1, iv b2, iv b3, iv b4, iv b5, iv b6, lv r1, .second, lv z8, .second, lv w1, .second, lv w2, .second, rv b16, .unset, .unset] [(.long w2), (.long z8), (.int b3), (.ref b18), (.ref b18)] _
  refine own_go (fun t₀ k₀ => XS.iload X18.here hx rfl (Jvm.hb hby at_163) rfl k₀) ?_
  show Gm p e below T18 m 165 #[iv p0, lv q1, .second, lv q2, .second, lv q3, .second, lv q4, .second, iv b1, iv b2, iv b3, iv b4, iv b5, iv b6, lv r1, .second, lv z8, .second, lv w1, .second, lv w2, .second, rv b16, .unset, .unset] [(.int b4), (.long w2), (.long z8), (.int b3), (.ref b18), (.ref b18)] _
  obtain ⟨_, _, ⟨T19, L19, k19, n19⟩, -, X19, ⟨Lc19, hQ19, l19, y19, z19⟩, st19⟩ := X18.specialBack hx (y := (⟨"com/example/libbrake/libbrake/Decision", "<init>", "(ZJJZ)V"⟩ : MethodName)) rfl hown (mvT hZ (hw _ (List.mem_of_getElem? (i := 8) rfl))) (mvT hZ (hw _ (List.mem_of_getElem? (i := 9) rfl))) (mvT hZ (hw _ (List.mem_of_getElem? (i := 10) rfl))) (by decide) (backOf (W := 1) (rm2 l Z a0 hw [] b18 b3 z8 w2 b4 h18 n0 Z18 A18 F_allowed_b18 F_remaining_b18 F_waitMillis_b18 F_fallback_b18 g_b18 hn_z8 (own_w1 h_w2) (own_w2 h_w2) (own_w3 h_w2) (by rw [hb3]; split <;> simp) (by rw [hb4]; split <;> simp)) hZ (hw _ (List.mem_of_getElem? (i := 10) rfl)) (hw _ (List.mem_of_getElem? (i := 7) rfl)) (by decide) (by decide)) (g := (mkF m 165 #[iv p0, lv q1, .second, lv q2, .second, lv q3, .second, lv q4, .second, iv b1, iv b2, iv b3, iv b4, iv b5, iv b6, lv r1, .second, lv z8, .second, lv w1, .second, lv w2, .second, rv b16, .unset, .unset] [(.int b4), (.long w2), (.long z8), (.int b3), (.ref b18), (.ref b18)])) rfl (by rw [hml]; rfl) (Steps.refl _) (a := b18) (argsL := [(.int b3), (.long z8), (.long w2), (.int b4)]) (rest := [(.ref b18)]) (lenOf own_pd3 rfl) rfl (by show 2 * 0 + _ ≤ _; exact Nat.le_of_eq rfl) (Jvm.hb hby at_165) (fun _ _ => ⟨rfl, e18, (by decide : 2 + 0 ≤ _), (by decide : 8 + 0 ≤ _)⟩)
  dsimp only [Pt.U, Pt.locs, Pt.cells, Pt.slots] at X19 l19 y19 z19 st19 hQ19
  subst l19 y19 z19
  obtain ⟨rfl, Nq19, Kc19, Ec19, Fc_allowed19, Fc_remaining19, Fc_waitMillis19, Fc_fallback19⟩ := hQ19
  have N19 := Fr.app N17 Nq19
  refine own_go (fun t k => st19.trans k) ?_
  have Z19 : n0 ≤ T19.heap.size := Nat.le_trans Z18 Kc19.1
  show Gm p e below T19 m 168 #[iv p0, lv q1, .second, lv q2, .second, lv q3, .second, lv q4, .second, iv b1, iv b2, iv b3, iv b4, iv b5, iv b6, lv r1, .second, lv z8, .second, lv w1, .second, lv w2, .second, rv b16, .unset, .unset] [(.ref b18)] _
  refine own_go (fun t₀ k₀ => XS.astore X19.here hx rfl (Jvm.hb hby at_168) rfl rfl (l' := #[iv p0, lv q1, .second, lv q2, .second, lv q3, .second, lv q4, .second, iv b1, iv b2, iv b3, iv b4, iv b5, iv b6, lv r1, .second, lv z8, .second, lv w1, .second, lv w2, .second, rv b16, rv b18, .unset]) rfl k₀) ?_
  show Gm p e below T19 m 170 #[iv p0, lv q1, .second, lv q2, .second, lv q3, .second, lv q4, .second, iv b1, iv b2, iv b3, iv b4, iv b5, iv b6, lv r1, .second, lv z8, .second, lv w1, .second, lv w2, .second, rv b16, rv b18, .unset] [] _
  refine own_go (fun t₀ k₀ => XS.iload X19.here hx rfl (Jvm.hb hby at_170) rfl k₀) ?_
  show Gm p e below T19 m 172 #[iv p0, lv q1, .second, lv q2, .second, lv q3, .second, lv q4, .second, iv b1, iv b2, iv b3, iv b4, iv b5, iv b6, lv r1, .second, lv z8, .second, lv w1, .second, lv w2, .second, rv b16, rv b18, .unset] [(.int b1)] _
  refine own_go (fun t₀ k₀ => XS.iload X19.here hx rfl (Jvm.hb hby at_172) rfl k₀) ?_
  obtain ⟨z20, hz20, k20⟩ : ∃ z : Int32, z = (if b1 = b3 then if r1 = z8 then if w1 = w2 then if b2 = b4 then (1 : Int32) else ((0 : Int32)) else ((0 : Int32)) else ((0 : Int32)) else ((0 : Int32))) ∧ ∀ P, Go p e below (T19.setTop (mkF m 205 #[iv p0, lv q1, .second, lv q2, .second, lv q3, .second, lv q4, .second, iv b1, iv b2, iv b3, iv b4, iv b5, iv b6, lv r1, .second, lv z8, .second, lv w1, .second, lv w2, .second, rv b16, rv b18, .unset] [(.int z)])) P → Go p e below (T19.setTop (mkF m 174 #[iv p0, lv q1, .second, lv q2, .second, lv q3, .second, lv q4, .second, iv b1, iv b2, iv b3, iv b4, iv b5, iv b6, lv r1, .second, lv z8, .second, lv w1, .second, lv w2, .second, rv b16, rv b18, .unset] [(.int b3), (.int b1)])) P := by
    refine ⟨_, rfl, fun P kP => ?_⟩
    show Gm p e below T19 m 174 #[iv p0, lv q1, .second, lv q2, .second, lv q3, .second, lv q4, .second, iv b1, iv b2, iv b3, iv b4, iv b5, iv b6, lv r1, .second, lv z8, .second, lv w1, .second, lv w2, .second, rv b16, rv b18, .unset] [(.int b3), (.int b1)] _
    by_cases c21 : b1 = b3
    · have hfork := trivial
      refine own_go (fun t₀ k₀ => XS.icmpNo X19.here hx rfl (Jvm.hb hby at_174) rfl (XT.ii_ne_f c21) k₀) ?_
      show Gm p e below T19 m 177 #[iv p0, lv q1, .second, lv q2, .second, lv q3, .second, lv q4, .second, iv b1, iv b2, iv b3, iv b4, iv b5, iv b6, lv r1, .second, lv z8, .second, lv w1, .second, lv w2, .second, rv b16, rv b18, .unset] [] _
      refine own_go (fun t₀ k₀ => XS.lload X19.here hx rfl (Jvm.hb hby at_177) rfl k₀) ?_
      show Gm p e below T19 m 179 #[iv p0, lv q1, .second, lv q2, .second, lv q3, .second, lv q4, .second, iv b1, iv b2, iv b3, iv b4, iv b5, iv b6, lv r1, .second, lv z8, .second, lv w1, .second, lv w2, .second, rv b16, rv b18, .unset] [(.long r1)] _
      refine own_go (fun t₀ k₀ => XS.lload X19.here hx rfl (Jvm.hb hby at_179) rfl k₀) ?_
      show Gm p e below T19 m 181 #[iv p0, lv q1, .second, lv q2, .second, lv q3, .second, lv q4, .second, iv b1, iv b2, iv b3, iv b4, iv b5, iv b6, lv r1, .second, lv z8, .second, lv w1, .second, lv w2, .second, rv b16, rv b18, .unset] [(.long z8), (.long r1)] _
      refine own_go (fun t₀ k₀ => XT.lcmp X19.here hx rfl (Jvm.hb hby at_181) rfl k₀) ?_
      show Gm p e below T19 m 182 #[iv p0, lv q1, .second, lv q2, .second, lv q3, .second, lv q4, .second, iv b1, iv b2, iv b3, iv b4, iv b5, iv b6, lv r1, .second, lv z8, .second, lv w1, .second, lv w2, .second, rv b16, rv b18, .unset] [(.int (XT.cmpL r1 z8))] _
      by_cases c22 : r1 = z8
      · have hfork := trivial
        refine own_go (fun t₀ k₀ => XS.ifNo X19.here hx rfl (Jvm.hb hby at_182) rfl (XT.ll_ne_f c22) k₀) ?_
        show Gm p e below T19 m 185 #[iv p0, lv q1, .second, lv q2, .second, lv q3, .second, lv q4, .second, iv b1, iv b2, iv b3, iv b4, iv b5, iv b6, lv r1, .second, lv z8, .second, lv w1, .second, lv w2, .second, rv b16, rv b18, .unset] [] _
        refine own_go (fun t₀ k₀ => XS.lload X19.here hx rfl (Jvm.hb hby at_185) rfl k₀) ?_
        show Gm p e below T19 m 187 #[iv p0, lv q1, .second, lv q2, .second, lv q3, .second, lv q4, .second, iv b1, iv b2, iv b3, iv b4, iv b5, iv b6, lv r1, .second, lv z8, .second, lv w1, .second, lv w2, .second, rv b16, rv b18, .unset] [(.long w1)] _
        refine own_go (fun t₀ k₀ => XS.lload X19.here hx rfl (Jvm.hb hby at_187) rfl k₀) ?_
        show Gm p e below T19 m 189 #[iv p0, lv q1, .second, lv q2, .second, lv q3, .second, lv q4, .second, iv b1, iv b2, iv b3, iv b4, iv b5, iv b6, lv r1, .second, lv z8, .second, lv w1, .second, lv w2, .second, rv b16, rv b18, .unset] [(.long w2), (.long w1)] _
        refine own_go (fun t₀ k₀ => XT.lcmp X19.here hx rfl (Jvm.hb hby at_189) rfl k₀) ?_
        show Gm p e below T19 m 190 #[iv p0, lv q1, .second, lv q2, .second, lv q3, .second, lv q4, .second, iv b1, iv b2, iv b3, iv b4, iv b5, iv b6, lv r1, .second, lv z8, .second, lv w1, .second, lv w2, .second, rv b16, rv b18, .unset] [(.int (XT.cmpL w1 w2))] _
        by_cases c23 : w1 = w2
        · have hfork := trivial
          refine own_go (fun t₀ k₀ => XS.ifNo X19.here hx rfl (Jvm.hb hby at_190) rfl (XT.ll_ne_f c23) k₀) ?_
          show Gm p e below T19 m 193 #[iv p0, lv q1, .second, lv q2, .second, lv q3, .second, lv q4, .second, iv b1, iv b2, iv b3, iv b4, iv b5, iv b6, lv r1, .second, lv z8, .second, lv w1, .second, lv w2, .second, rv b16, rv b18, .unset] [] _
          refine own_go (fun t₀ k₀ => XS.iload X19.here hx rfl (Jvm.hb hby at_193) rfl k₀) ?_
          show Gm p e below T19 m 195 #[iv p0, lv q1, .second, lv q2, .second, lv q3, .second, lv q4, .second, iv b1, iv b2, iv b3, iv b4, iv b5, iv b6, lv r1, .second, lv z8, .second, lv w1, .second, lv w2, .second, rv b16, rv b18, .unset] [(.int b2)] _
          refine own_go (fun t₀ k₀ => XS.iload X19.here hx rfl (Jvm.hb hby at_195) rfl k₀) ?_
          show Gm p e below T19 m 197 #[iv p0, lv q1, .second, lv q2, .second, lv q3, .second, lv q4, .second, iv b1, iv b2, iv b3, iv b4, iv b5, iv b6, lv r1, .second, lv z8, .second, lv w1, .second, lv w2, .second, rv b16, rv b18, .unset] [(.int b4), (.int b2)] _
          by_cases c24 : b2 = b4
          · have hfork := trivial
            refine own_go (fun t₀ k₀ => XS.icmpNo X19.here hx rfl (Jvm.hb hby at_197) rfl (XT.ii_ne_f c24) k₀) ?_
            show Gm p e below T19 m 200 #[iv p0, lv q1, .second, lv q2, .second, lv q3, .second, lv q4, .second, iv b1, iv b2, iv b3, iv b4, iv b5, iv b6, lv r1, .second, lv z8, .second, lv w1, .second, lv w2, .second, rv b16, rv b18, .unset] [] _
            refine own_go (fun t₀ k₀ => XS.iconst X19.here hx rfl (Jvm.hb hby at_200) k₀) ?_
            show Gm p e below T19 m 201 #[iv p0, lv q1, .second, lv q2, .second, lv q3, .second, lv q4, .second, iv b1, iv b2, iv b3, iv b4, iv b5, iv b6, lv r1, .second, lv z8, .second, lv w1, .second, lv w2, .second, rv b16, rv b18, .unset] [(.int (1 : Int32))] _
            refine own_go (fun t₀ k₀ => XS.goto X19.here hx rfl (pc0 := 201) (pc' := 205) rfl (Jvm.hb hby at_201) (by decide) (by decide) k₀) ?_
            rw [if_pos c21, if_pos c22, if_pos c23, if_pos c24] at kP
            exact kP
          · have hfork := trivial
            refine own_go (fun t₀ k₀ => XS.icmpYes X19.here hx rfl (pc0 := 197) (pc' := 204) rfl (Jvm.hb hby at_197) rfl (XT.ii_ne_t c24) (by decide) (by decide) k₀) ?_
            show Gm p e below T19 m 204 #[iv p0, lv q1, .second, lv q2, .second, lv q3, .second, lv q4, .second, iv b1, iv b2, iv b3, iv b4, iv b5, iv b6, lv r1, .second, lv z8, .second, lv w1, .second, lv w2, .second, rv b16, rv b18, .unset] [] _
            refine own_go (fun t₀ k₀ => XS.iconst X19.here hx rfl (Jvm.hb hby at_204) k₀) ?_
            rw [if_pos c21, if_pos c22, if_pos c23, if_neg c24] at kP
            exact kP
        · have hfork := trivial
          refine own_go (fun t₀ k₀ => XS.ifYes X19.here hx rfl (pc0 := 190) (pc' := 204) rfl (Jvm.hb hby at_190) rfl (XT.ll_ne_t c23) (by decide) (by decide) k₀) ?_
          show Gm p e below T19 m 204 #[iv p0, lv q1, .second, lv q2, .second, lv q3, .second, lv q4, .second, iv b1, iv b2, iv b3, iv b4, iv b5, iv b6, lv r1, .second, lv z8, .second, lv w1, .second, lv w2, .second, rv b16, rv b18, .unset] [] _
          refine own_go (fun t₀ k₀ => XS.iconst X19.here hx rfl (Jvm.hb hby at_204) k₀) ?_
          rw [if_pos c21, if_pos c22, if_neg c23] at kP
          exact kP
      · have hfork := trivial
        refine own_go (fun t₀ k₀ => XS.ifYes X19.here hx rfl (pc0 := 182) (pc' := 204) rfl (Jvm.hb hby at_182) rfl (XT.ll_ne_t c22) (by decide) (by decide) k₀) ?_
        show Gm p e below T19 m 204 #[iv p0, lv q1, .second, lv q2, .second, lv q3, .second, lv q4, .second, iv b1, iv b2, iv b3, iv b4, iv b5, iv b6, lv r1, .second, lv z8, .second, lv w1, .second, lv w2, .second, rv b16, rv b18, .unset] [] _
        refine own_go (fun t₀ k₀ => XS.iconst X19.here hx rfl (Jvm.hb hby at_204) k₀) ?_
        rw [if_pos c21, if_neg c22] at kP
        exact kP
    · have hfork := trivial
      refine own_go (fun t₀ k₀ => XS.icmpYes X19.here hx rfl (pc0 := 174) (pc' := 204) rfl (Jvm.hb hby at_174) rfl (XT.ii_ne_t c21) (by decide) (by decide) k₀) ?_
      show Gm p e below T19 m 204 #[iv p0, lv q1, .second, lv q2, .second, lv q3, .second, lv q4, .second, iv b1, iv b2, iv b3, iv b4, iv b5, iv b6, lv r1, .second, lv z8, .second, lv w1, .second, lv w2, .second, rv b16, rv b18, .unset] [] _
      refine own_go (fun t₀ k₀ => XS.iconst X19.here hx rfl (Jvm.hb hby at_204) k₀) ?_
      rw [if_neg c21] at kP
      exact kP
  refine k20 _ ?_
  show Gm p e below T19 m 205 #[iv p0, lv q1, .second, lv q2, .second, lv q3, .second, lv q4, .second, iv b1, iv b2, iv b3, iv b4, iv b5, iv b6, lv r1, .second, lv z8, .second, lv w1, .second, lv w2, .second, rv b16, rv b18, .unset] [(.int z20)] _
  refine own_go (fun t₀ k₀ => XS.istore X19.here hx rfl (Jvm.hb hby at_205) rfl (l' := #[iv p0, lv q1, .second, lv q2, .second, lv q3, .second, lv q4, .second, iv b1, iv b2, iv b3, iv b4, iv b5, iv b6, lv r1, .second, lv z8, .second, lv w1, .second, lv w2, .second, rv b16, rv b18, iv z20]) rfl k₀) ?_
  show Gm p e below T19 m 207 #[iv p0, lv q1, .second, lv q2, .second, lv q3, .second, lv q4, .second, iv b1, iv b2, iv b3, iv b4, iv b5, iv b6, lv r1, .second, lv z8, .second, lv w1, .second, lv w2, .second, rv b16, rv b18, iv z20] [] _
  refine own_go (fun t₀ k₀ => XS.aload X19.here hx rfl (Jvm.hb hby at_207) rfl rfl k₀) ?_
  show Gm p e below T19 m 209 #[iv p0, lv q1, .second, lv q2, .second, lv q3, .second, lv q4, .second, iv b1, iv b2, iv b3, iv b4, iv b5, iv b6, lv r1, .second, lv z8, .second, lv w1, .second, lv w2, .second, rv b16, rv b18, iv z20] [(.ref b16)] _
  refine own_go (fun t₀ k₀ => XS.aload X19.here hx rfl (Jvm.hb hby at_209) rfl rfl k₀) ?_
  show Gm p e below T19 m 211 #[iv p0, lv q1, .second, lv q2, .second, lv q3, .second, lv q4, .second, iv b1, iv b2, iv b3, iv b4, iv b5, iv b6, lv r1, .second, lv z8, .second, lv w1, .second, lv w2, .second, rv b16, rv b18, iv z20] [(.ref b18), (.ref b16)] _
  have f25 := ((Fc_allowed17.ext E18).keep Kc19 (ninS ne_b16_b18 nin0))
  have f26 := ((Fc_remaining17.ext E18).keep Kc19 (ninS ne_b16_b18 nin0))
  have f27 := ((Fc_waitMillis17.ext E18).keep Kc19 (ninS ne_b16_b18 nin0))
  have f28 := ((Fc_fallback17.ext E18).keep Kc19 (ninS ne_b16_b18 nin0))
  have f30 := ((Ec17.ext E18).keep Kc19)
  obtain ⟨cq29, kq29, q29a, q29b, q29c⟩ := isOf hZ rfl f30
  obtain ⟨_, _, ⟨T29, L29, k29, n29⟩, -, X29, ⟨Lc29, hQ29, l29, y29, z29⟩, st29⟩ := X19.virtualBack hx (y := (⟨"com/example/libbrake/libbrake/Decision", "equals", "(Ljava/lang/Object;)Z"⟩ : MethodName)) (z := (⟨"com/example/libbrake/libbrake/Decision", "equals", "(Ljava/lang/Object;)Z"⟩ : MethodName)) hown (mvT hZ (hw _ (List.mem_of_getElem? (i := 22) rfl))) (mvT hZ (hw _ (List.mem_of_getElem? (i := 23) rfl))) (notFace_of_selects (args := #[]) (mvT hZ (hw _ (List.mem_of_getElem? (i := 25) rfl)))) (mvT hZ (hw _ (List.mem_of_getElem? (i := 25) rfl))) (mvT hZ (hw _ (List.mem_of_getElem? (i := 24) rfl))) (by decide) (backOf (W := 0) (rm4 l Z a0 hw [] b16 b18 b1 r1 w1 b2 b3 z8 w2 b4 T19.heap n0 Z19 Ec19 f25 f26 f27 f28 Fc_allowed19 Fc_remaining19 Fc_waitMillis19 Fc_fallback19) hZ (hw _ (List.mem_of_getElem? (i := 26) rfl)) (hw _ (List.mem_of_getElem? (i := 7) rfl)) (by decide) (by decide)) q29a q29c (g := (mkF m 211 #[iv p0, lv q1, .second, lv q2, .second, lv q3, .second, lv q4, .second, iv b1, iv b2, iv b3, iv b4, iv b5, iv b6, lv r1, .second, lv z8, .second, lv w1, .second, lv w2, .second, rv b16, rv b18, iv z20] [(.ref b18), (.ref b16)])) rfl (by rw [hml]; rfl) (Steps.refl _) (argsL := [(.ref b18)]) (rest := []) (lenOf own_pd4 rfl) rfl (by show 2 * 0 + _ ≤ _; exact Nat.le_of_eq rfl) (Jvm.hb hby at_211) (fun _ _ => ⟨rfl, rfl, (by decide : 2 + 0 ≤ _), (by decide : 8 + 0 ≤ _)⟩)
  dsimp only [Pt.U, Pt.locs, Pt.cells, Pt.slots] at X29 l29 y29 z29 st29 hQ29
  subst l29 y29 z29
  obtain ⟨rfl, Nq29, eq29⟩ := hQ29
  have N29 := Fr.app N19 Nq29
  have e29 : T29.heap = T19.heap := eq29
  refine own_go (fun t k => st29.trans k) ?_
  show Gm p e below T29 m 214 #[iv p0, lv q1, .second, lv q2, .second, lv q3, .second, lv q4, .second, iv b1, iv b2, iv b3, iv b4, iv b5, iv b6, lv r1, .second, lv z8, .second, lv w1, .second, lv w2, .second, rv b16, rv b18, iv z20] [(.int (fE b1 r1 w1 b2 b3 z8 w2 b4))] _
  refine own_go (fun t₀ k₀ => XS.iload X29.here hx rfl (Jvm.hb hby at_214) rfl k₀) ?_
  show Gm p e below T29 m 216 #[iv p0, lv q1, .second, lv q2, .second, lv q3, .second, lv q4, .second, iv b1, iv b2, iv b3, iv b4, iv b5, iv b6, lv r1, .second, lv z8, .second, lv w1, .second, lv w2, .second, rv b16, rv b18, iv z20] [(.int z20), (.int (fE b1 r1 w1 b2 b3 z8 w2 b4))] _
  refine own_go (fun t₀ k₀ => XS.icmpYes X29.here hx rfl (pc0 := 216) (pc' := 221) rfl (Jvm.hb hby at_216) rfl (XT.ii_eq_t (by rw [hz20]; rfl)) (by decide) (by decide) k₀) ?_
  show Gm p e below T29 m 221 #[iv p0, lv q1, .second, lv q2, .second, lv q3, .second, lv q4, .second, iv b1, iv b2, iv b3, iv b4, iv b5, iv b6, lv r1, .second, lv z8, .second, lv w1, .second, lv w2, .second, rv b16, rv b18, iv z20] [] _
  refine own_go (fun t₀ k₀ => XS.aload X29.here hx rfl (Jvm.hb hby at_221) rfl rfl k₀) ?_
  show Gm p e below T29 m 223 #[iv p0, lv q1, .second, lv q2, .second, lv q3, .second, lv q4, .second, iv b1, iv b2, iv b3, iv b4, iv b5, iv b6, lv r1, .second, lv z8, .second, lv w1, .second, lv w2, .second, rv b16, rv b18, iv z20] [(.ref b16)] _
  refine own_go (fun t₀ k₀ => XS.aload X29.here hx rfl (Jvm.hb hby at_223) rfl rfl k₀) ?_
  show Gm p e below T29 m 225 #[iv p0, lv q1, .second, lv q2, .second, lv q3, .second, lv q4, .second, iv b1, iv b2, iv b3, iv b4, iv b5, iv b6, lv r1, .second, lv z8, .second, lv w1, .second, lv w2, .second, rv b16, rv b18, iv z20] [(.ref b16), (.ref b16)] _
  obtain ⟨cq31, kq31, q31a, q31b, q31c⟩ := isOf hZ e29 f30
  obtain ⟨_, _, ⟨T31, L31, k31, n31⟩, -, X31, ⟨Lc31, hQ31, l31, y31, z31⟩, st31⟩ := X29.virtualBack hx (y := (⟨"com/example/libbrake/libbrake/Decision", "equals", "(Ljava/lang/Object;)Z"⟩ : MethodName)) (z := (⟨"com/example/libbrake/libbrake/Decision", "equals", "(Ljava/lang/Object;)Z"⟩ : MethodName)) hown (mvT hZ (hw _ (List.mem_of_getElem? (i := 22) rfl))) (mvT hZ (hw _ (List.mem_of_getElem? (i := 23) rfl))) (notFace_of_selects (args := #[]) (mvT hZ (hw _ (List.mem_of_getElem? (i := 25) rfl)))) (mvT hZ (hw _ (List.mem_of_getElem? (i := 25) rfl))) (mvT hZ (hw _ (List.mem_of_getElem? (i := 24) rfl))) (by decide) (backOf (W := 0) (rm4 l Z a0 hw [] b16 b16 b1 r1 w1 b2 b1 r1 w1 b2 T19.heap n0 Z19 f30 f25 f26 f27 f28 f25 f26 f27 f28) hZ (hw _ (List.mem_of_getElem? (i := 26) rfl)) (hw _ (List.mem_of_getElem? (i := 7) rfl)) (by decide) (by decide)) q31a q31c (g := (mkF m 225 #[iv p0, lv q1, .second, lv q2, .second, lv q3, .second, lv q4, .second, iv b1, iv b2, iv b3, iv b4, iv b5, iv b6, lv r1, .second, lv z8, .second, lv w1, .second, lv w2, .second, rv b16, rv b18, iv z20] [(.ref b16), (.ref b16)])) rfl (by rw [hml]; rfl) (Steps.refl _) (argsL := [(.ref b16)]) (rest := []) (lenOf own_pd4 rfl) rfl (by show 2 * 0 + _ ≤ _; exact Nat.le_of_eq rfl) (Jvm.hb hby at_225) (fun _ _ => ⟨rfl, e29, (by decide : 2 + 0 ≤ _), (by decide : 8 + 0 ≤ _)⟩)
  dsimp only [Pt.U, Pt.locs, Pt.cells, Pt.slots] at X31 l31 y31 z31 st31 hQ31
  subst l31 y31 z31
  obtain ⟨rfl, Nq31, eq31⟩ := hQ31
  have N31 := Fr.app N29 Nq31
  have e31 : T31.heap = T19.heap := eq31
  refine own_go (fun t k => st31.trans k) ?_
  show Gm p e below T31 m 228 #[iv p0, lv q1, .second, lv q2, .second, lv q3, .second, lv q4, .second, iv b1, iv b2, iv b3, iv b4, iv b5, iv b6, lv r1, .second, lv z8, .second, lv w1, .second, lv w2, .second, rv b16, rv b18, iv z20] [(.int (fE b1 r1 w1 b2 b1 r1 w1 b2))] _
  refine own_go (fun t₀ k₀ => XS.ifYes X31.here hx rfl (pc0 := 228) (pc' := 233) rfl (Jvm.hb hby at_228) rfl (XT.i0_ne_t (by rw [own_ee]; decide)) (by decide) (by decide) k₀) ?_
  show Gm p e below T31 m 233 #[iv p0, lv q1, .second, lv q2, .second, lv q3, .second, lv q4, .second, iv b1, iv b2, iv b3, iv b4, iv b5, iv b6, lv r1, .second, lv z8, .second, lv w1, .second, lv w2, .second, rv b16, rv b18, iv z20] [] _
  refine own_go (fun t₀ k₀ => XS.aload X31.here hx rfl (Jvm.hb hby at_233) rfl rfl k₀) ?_
  show Gm p e below T31 m 235 #[iv p0, lv q1, .second, lv q2, .second, lv q3, .second, lv q4, .second, iv b1, iv b2, iv b3, iv b4, iv b5, iv b6, lv r1, .second, lv z8, .second, lv w1, .second, lv w2, .second, rv b16, rv b18, iv z20] [(.ref b16)] _
  refine own_go (fun t₀ k₀ => XS.aconstNull X31.here hx rfl (Jvm.hb hby at_235) k₀) ?_
  show Gm p e below T31 m 236 #[iv p0, lv q1, .second, lv q2, .second, lv q3, .second, lv q4, .second, iv b1, iv b2, iv b3, iv b4, iv b5, iv b6, lv r1, .second, lv z8, .second, lv w1, .second, lv w2, .second, rv b16, rv b18, iv z20] [.null, (.ref b16)] _
  obtain ⟨cq32, kq32, q32a, q32b, q32c⟩ := isOf hZ e31 f30
  obtain ⟨_, _, ⟨T32, L32, k32, n32⟩, -, X32, ⟨Lc32, hQ32, l32, y32, z32⟩, st32⟩ := X31.virtualBack hx (y := (⟨"com/example/libbrake/libbrake/Decision", "equals", "(Ljava/lang/Object;)Z"⟩ : MethodName)) (z := (⟨"com/example/libbrake/libbrake/Decision", "equals", "(Ljava/lang/Object;)Z"⟩ : MethodName)) hown (mvT hZ (hw _ (List.mem_of_getElem? (i := 22) rfl))) (mvT hZ (hw _ (List.mem_of_getElem? (i := 23) rfl))) (notFace_of_selects (args := #[]) (mvT hZ (hw _ (List.mem_of_getElem? (i := 25) rfl)))) (mvT hZ (hw _ (List.mem_of_getElem? (i := 25) rfl))) (mvT hZ (hw _ (List.mem_of_getElem? (i := 24) rfl))) (by decide) (backOf (W := 0) (rm4n l Z a0 hw [] b16 T19.heap n0 Z19) hZ (hw _ (List.mem_of_getElem? (i := 26) rfl)) (hw _ (List.mem_of_getElem? (i := 7) rfl)) (by decide) (by decide)) q32a q32c (g := (mkF m 236 #[iv p0, lv q1, .second, lv q2, .second, lv q3, .second, lv q4, .second, iv b1, iv b2, iv b3, iv b4, iv b5, iv b6, lv r1, .second, lv z8, .second, lv w1, .second, lv w2, .second, rv b16, rv b18, iv z20] [.null, (.ref b16)])) rfl (by rw [hml]; rfl) (Steps.refl _) (argsL := [.null]) (rest := []) (lenOf own_pd4 rfl) rfl (by show 2 * 0 + _ ≤ _; exact Nat.le_of_eq rfl) (Jvm.hb hby at_236) (fun _ _ => ⟨rfl, e31, (by decide : 2 + 0 ≤ _), (by decide : 8 + 0 ≤ _)⟩)
  dsimp only [Pt.U, Pt.locs, Pt.cells, Pt.slots] at X32 l32 y32 z32 st32 hQ32
  subst l32 y32 z32
  obtain ⟨rfl, Nq32, eq32⟩ := hQ32
  have N32 := Fr.app N31 Nq32
  have e32 : T32.heap = T19.heap := eq32
  refine own_go (fun t k => st32.trans k) ?_
  show Gm p e below T32 m 239 #[iv p0, lv q1, .second, lv q2, .second, lv q3, .second, lv q4, .second, iv b1, iv b2, iv b3, iv b4, iv b5, iv b6, lv r1, .second, lv z8, .second, lv w1, .second, lv w2, .second, rv b16, rv b18, iv z20] [(.int (0 : Int32))] _
  refine own_go (fun t₀ k₀ => XS.ifYes X32.here hx rfl (pc0 := 239) (pc' := 244) rfl (Jvm.hb hby at_239) rfl (XT.i0_eq_t (by decide)) (by decide) (by decide) k₀) ?_
  have O33 := Old.ext O0 E16
  have O34 := Old.keep O33 Kc17 (allS g_b16 all0)
  have O35 := Old.ext O34 E18
  have O36 := Old.keep O35 Kc19 (allS g_b18 all0)
  have hold37 := O36
  show Gm p e below T32 m 244 #[iv p0, lv q1, .second, lv q2, .second, lv q3, .second, lv q4, .second, iv b1, iv b2, iv b3, iv b4, iv b5, iv b6, lv r1, .second, lv z8, .second, lv w1, .second, lv w2, .second, rv b16, rv b18, iv z20] [] _
  refine own_go (fun t₀ k₀ => XS.aload X32.here hx rfl (Jvm.hb hby at_244) rfl rfl k₀) ?_
  show Gm p e below T32 m 246 #[iv p0, lv q1, .second, lv q2, .second, lv q3, .second, lv q4, .second, iv b1, iv b2, iv b3, iv b4, iv b5, iv b6, lv r1, .second, lv z8, .second, lv w1, .second, lv w2, .second, rv b16, rv b18, iv z20] [(.ref b16)] _
  refine own_go (fun t₀ k₀ => XS.lload X32.here hx rfl (Jvm.hb hby at_246) rfl k₀) ?_
  show Gm p e below T32 m 248 #[iv p0, lv q1, .second, lv q2, .second, lv q3, .second, lv q4, .second, iv b1, iv b2, iv b3, iv b4, iv b5, iv b6, lv r1, .second, lv z8, .second, lv w1, .second, lv w2, .second, rv b16, rv b18, iv z20] [(.long r1), (.ref b16)] _
  obtain ⟨_, _, ⟨T38, L38, k38, n38⟩, -, X38, ⟨Lc38, hQ38, l38, y38, z38⟩, st38⟩ := Jvm.LawKit.callS X32 hx (y := (⟨"java/lang/Long", "valueOf", "(J)Ljava/lang/Long;"⟩ : MethodName)) hown (mvT hZ (hw _ (List.mem_of_getElem? (i := 29) rfl))) (mvT hZ (hw _ (List.mem_of_getElem? (i := 30) rfl))) (mvT hZ (hw _ (List.mem_of_getElem? (i := 31) rfl))) (mvT hZ (hw _ (List.mem_of_getElem? (i := 32) rfl))) (by decide) (backOf (W := 1) (rm5 l Z a0 hw [] r1 ca f T19.heap n0 Z19 (S_ca.ext hold37.2) (A.ext hold37.2) (fun i hi => by obtain ⟨x, hx1, hx2⟩ := hf i hi; exact ⟨x, hx1, hx2.ext hold37.2⟩)) hZ (hw _ (List.mem_of_getElem? (i := 32) rfl)) (hw _ (List.mem_of_getElem? (i := 31) rfl)) (by decide) (by decide)) (g := (mkF m 248 #[iv p0, lv q1, .second, lv q2, .second, lv q3, .second, lv q4, .second, iv b1, iv b2, iv b3, iv b4, iv b5, iv b6, lv r1, .second, lv z8, .second, lv w1, .second, lv w2, .second, rv b16, rv b18, iv z20] [(.long r1), (.ref b16)])) rfl (by rw [hml]; rfl) (argsL := [(.long r1)]) (rest := [(.ref b16)]) (lenOf own_pd5 rfl) rfl (by show 2 * 0 + _ ≤ _; exact Nat.le_of_eq rfl) (Jvm.hb hby at_248) (fun _ _ => ⟨rfl, e32, (by decide : 2 + 1 ≤ _), (by decide : 8 + 1 ≤ _)⟩)
  dsimp only [Pt.U, Pt.locs, Pt.cells, Pt.slots] at X38 l38 y38 z38 st38 hQ38
  subst l38 y38 z38
  obtain ⟨a38, rfl, Nq38, Kc38, Ec38⟩ := hQ38
  have N38 := Fr.app N32 Nq38
  refine own_go st38 ?_
  have Z38 : n0 ≤ T38.heap.size := Nat.le_trans Z19 Kc38.1
  show Gm p e below T38 m 251 #[iv p0, lv q1, .second, lv q2, .second, lv q3, .second, lv q4, .second, iv b1, iv b2, iv b3, iv b4, iv b5, iv b6, lv r1, .second, lv z8, .second, lv w1, .second, lv w2, .second, rv b16, rv b18, iv z20] [(.ref a38), (.ref b16)] _
  have f40 := (f30.keep Kc38)
  obtain ⟨cq39, kq39, q39a, q39b, q39c⟩ := isOf hZ rfl f40
  obtain ⟨_, _, ⟨T39, L39, k39, n39⟩, -, X39, ⟨Lc39, hQ39, l39, y39, z39⟩, st39⟩ := X38.virtualBack hx (y := (⟨"com/example/libbrake/libbrake/Decision", "equals", "(Ljava/lang/Object;)Z"⟩ : MethodName)) (z := (⟨"com/example/libbrake/libbrake/Decision", "equals", "(Ljava/lang/Object;)Z"⟩ : MethodName)) hown (mvT hZ (hw _ (List.mem_of_getElem? (i := 22) rfl))) (mvT hZ (hw _ (List.mem_of_getElem? (i := 23) rfl))) (notFace_of_selects (args := #[]) (mvT hZ (hw _ (List.mem_of_getElem? (i := 25) rfl)))) (mvT hZ (hw _ (List.mem_of_getElem? (i := 25) rfl))) (mvT hZ (hw _ (List.mem_of_getElem? (i := 24) rfl))) (by decide) (backOf (W := 0) (rm4l l Z a0 hw [] b16 a38 T38.heap n0 Z38 Ec38) hZ (hw _ (List.mem_of_getElem? (i := 26) rfl)) (hw _ (List.mem_of_getElem? (i := 7) rfl)) (by decide) (by decide)) q39a q39c (g := (mkF m 251 #[iv p0, lv q1, .second, lv q2, .second, lv q3, .second, lv q4, .second, iv b1, iv b2, iv b3, iv b4, iv b5, iv b6, lv r1, .second, lv z8, .second, lv w1, .second, lv w2, .second, rv b16, rv b18, iv z20] [(.ref a38), (.ref b16)])) rfl (by rw [hml]; rfl) (Steps.refl _) (argsL := [(.ref a38)]) (rest := []) (lenOf own_pd4 rfl) rfl (by show 2 * 0 + _ ≤ _; exact Nat.le_of_eq rfl) (Jvm.hb hby at_251) (fun _ _ => ⟨rfl, rfl, (by decide : 3 + 0 ≤ _), (by decide : 9 + 0 ≤ _)⟩)
  dsimp only [Pt.U, Pt.locs, Pt.cells, Pt.slots] at X39 l39 y39 z39 st39 hQ39
  subst l39 y39 z39
  obtain ⟨rfl, Nq39, eq39⟩ := hQ39
  have N39 := Fr.app N38 Nq39
  have e39 : T39.heap = T38.heap := eq39
  refine own_go (fun t k => st39.trans k) ?_
  show Gm p e below T39 m 254 #[iv p0, lv q1, .second, lv q2, .second, lv q3, .second, lv q4, .second, iv b1, iv b2, iv b3, iv b4, iv b5, iv b6, lv r1, .second, lv z8, .second, lv w1, .second, lv w2, .second, rv b16, rv b18, iv z20] [(.int (0 : Int32))] _
  refine own_go (fun t₀ k₀ => XS.ifYes X39.here hx rfl (pc0 := 254) (pc' := 259) rfl (Jvm.hb hby at_254) rfl (XT.i0_eq_t (by decide)) (by decide) (by decide) k₀) ?_
  show Gm p e below T39 m 259 #[iv p0, lv q1, .second, lv q2, .second, lv q3, .second, lv q4, .second, iv b1, iv b2, iv b3, iv b4, iv b5, iv b6, lv r1, .second, lv z8, .second, lv w1, .second, lv w2, .second, rv b16, rv b18, iv z20] [] _
  refine own_go (fun t₀ k₀ => XS.iconst X39.here hx rfl (Jvm.hb hby at_259) k₀) ?_
  show Gm p e below T39 m 260 #[iv p0, lv q1, .second, lv q2, .second, lv q3, .second, lv q4, .second, iv b1, iv b2, iv b3, iv b4, iv b5, iv b6, lv r1, .second, lv z8, .second, lv w1, .second, lv w2, .second, rv b16, rv b18, iv z20] [(.int (1 : Int32))] _
  exact own_retI X39 hx hlk (t := .boolean) Bd.returns rfl (by simp) (Jvm.hb hby at_260) e39 ⟨rfl, N39⟩ (by decide) (by decide)
set_option maxRecDepth 65536 in
set_option maxHeartbeats 40000000 in
theorem comes_1 {Post : Tables → Env → Array Value → State → Outcome → State → Prop} (hpost : ∀ tb e args s v u, (limb_1_1.after args s (.returned v) u = true ∧ limb_1_2.after args s (.returned v) u = true ∧ True) → FrameEnd s (.returned v) u (Jvm.fieldLocs frame_1_writes args s ++ Jvm.arrayLocs frame_1_arrays args s ++ Jvm.staticLocs frame_1_statics s) 16 128 → Post tb e args s (.returned v) u) :
    ArmFor flags0 classFile x code maxLocals ret World_1 tables_1 room_1 Calls_1 rest_1 Pre_1 Post := by
  intro l hfl _ _ p e ha hc hk s m args below hf hA hF happ hP
  obtain ⟨hcalls, hrest, hpre⟩ := hP
  obtain ⟨-, -, -, hnamed, -, -, -, hat⟩ := (Spec.applies_iff hf).mp happ
  obtain ⟨hg, hn⟩ := and_e (Cond.before_iff.mp (show (Jvm.Cond.and given_1 narrow_1).before args s = true from hpre))
  obtain ⟨g1, g2⟩ := and_e hg
  obtain ⟨g3, g4⟩ := and_e g2
  obtain ⟨g5, g6⟩ := and_e g4
  obtain ⟨g7, g8⟩ := and_e g6
  obtain ⟨g9, g10⟩ := and_e g8
  obtain ⟨w0, w1, w2, w3, w4, rfl⟩ : ∃ w0 w1 w2 w3 w4 : Value, args = #[w0, w1, w2, w3, w4] := by
    have hs : args.size = 5 := by simpa [Cond.value, given_1] using g1
    obtain ⟨L⟩ := args
    match L, hs with
    | [w0, w1, w2, w3, w4], _ => exact ⟨w0, w1, w2, w3, w4, rfl⟩
  have hw := fun d (hd : d ∈ tables_1) => atoms_spec (ws := Jvm.Cond.code x code maxLocals ret :: tables_1) hat d (List.mem_cons_of_mem _ hd)
  have hfit : Fit s := fun {y c} hc i hi => by
    obtain ⟨ha, rfl⟩ := Array.getElem?_eq_some_iff.mp hc
    have q := List.all_eq_true.mp ((Array.all_eq_true_iff_forall_mem.mp hF) _ (Array.getElem_mem ha)) i (List.mem_range.mpr hi)
    simpa [Array.getElem?_eq_getElem hi] using q
  obtain ⟨hsets, hown0⟩ := atoms_of _ (rest_1_c_eq ▸ (show rest_1_c.before _ s = true from hrest))
  have hr0 := Cond.before_iff.mp hown0
  obtain ⟨i0, ei0⟩ := is_v g3
  obtain rfl : w0 = (.int i0) := Option.some.inj ei0
  obtain ⟨i1, ei1⟩ := isL_v g5
  obtain rfl : w1 = (.long i1) := Option.some.inj ei1
  obtain ⟨i2, ei2⟩ := isL_v g7
  obtain rfl : w2 = (.long i2) := Option.some.inj ei2
  obtain ⟨i3, ei3⟩ := isL_v g9
  obtain rfl : w3 = (.long i3) := Option.some.inj ei3
  obtain ⟨i4, ei4⟩ := isL_v g10
  obtain rfl : w4 = (.long i4) := Option.some.inj ei4
  obtain ⟨ca, ev_ca⟩ := arr_v (Cond.before_iff.mp (hsets _ (List.mem_of_getElem? (i := 2) rfl)))
  obtain ⟨cc, A_ca⟩ := Arr.start ev_ca (Cond.before_iff.mp (hsets _ (List.mem_of_getElem? (i := 2) rfl)))
  have S_ca : Sta s s.heap "java/lang/Long$LongCache" "cache" "[Ljava/lang/Long;" (.ref ca) := Sta.start ev_ca (Or.inl (hsets _ (List.mem_of_getElem? (i := 1) rfl)))
  have hlen := own_lenz (n := 256) (own_eqI (Cond.before_iff.mp (hsets _ (List.mem_of_getElem? (i := 4) rfl)))) ev_ca A_ca (by decide)
  have A := own_af hfit A_ca hlen
  have hfa : ∀ i, i < 256 → ∃ a, (cc.slots[i]?).getD .null = .ref a ∧ Exa s s.heap a "java/lang/Long" := fun i hi => by
    have u := Cond.all_elim ev_ca (Arr.fin (Vm.Alike.refl _) A_ca) (Cond.before_iff.mp (hsets _ (List.mem_of_getElem? (i := 5) rfl))) i (by rw [hlen.2]; exact hi)
    obtain ⟨u1, -⟩ := and_e u
    obtain ⟨x, ex⟩ := exa_v u1
    obtain ⟨-, el⟩ := elem_in ex (by simpa [Term.eval] using ev_ca) (Term.index_eval _) A_ca.1
    refine ⟨x, ?_, exa_at ex u1⟩
    rw [nat32 (by omega : i < 2 ^ 31)] at el; rw [el]; rfl
  obtain ⟨n, o, h1, h2, h3, _, L, rfl, ⟨rfl, N⟩, hq⟩ := rm0 l s _ hw tables_1 i0 i1 i2 i3 i4 ca _ s.heap s.heap.size (Nat.le_refl _) S_ca A hfa (Old.start s) p e ha hc hk s m _ below hf ((Spec.applies_iff_loose hf).mp happ).1 ⟨rfl, State.Warmed39.refl s, rfl⟩ trivial
  refine ⟨n, _, h1, h2, h3, hpost _ _ _ _ _ _ ⟨Cond.after_iff.mpr rfl, Cond.after_iff.mpr (eq_i res_at (Term.int_eval (1)) rfl), trivial⟩ ⟨hq.1, hq.2.1, (hq.2.2.sift fun y hy => Or.inr (N y hy)).mono (by decide) (by decide)⟩⟩
theorem main_1_1 : Claimed_1_1 := comes_1 fun _ _ _ _ _ _ h hF => ⟨h.1, hF⟩
theorem main_1_2 : Claimed_1_2 := comes_1 fun _ _ _ _ _ _ h hF => ⟨h.2.1, hF⟩
end Jvm.Pilot.@@N@@
namespace Jvm.Pilot.@@N@@
open Jvm Jvm.ClassFile Sem Op Lib Jvm.Free Jvm.Stand Jvm.Pilot.@@N@@.Jvm.D
/-! MADE BY PROGRAM (witnessworld.py) out of the Statement's table words and the real class files: 16 classes; the members and pool entries that the words name. The judged class is class 1, her method 2. -/
namespace start1
open Jvm.ClassFile
def u (s : String) : CpInfo := .utf8 (stringToUtf16 s)
/-- a pool by its gaps: so many unusable entries, then the entry; so many at the end -/
def gap : Nat → List CpInfo → List CpInfo
  | 0, r => r
  | n + 1, r => .unusable :: gap n r
def poolList (es : List (Nat × CpInfo)) (last : Nat) : List CpInfo := es.foldr (fun e r => gap e.1 (e.2 :: r)) (gap last [])
def pool (es : List (Nat × CpInfo)) (last : Nat) : Array CpInfo := ⟨poolList es last⟩
def fileOf (pool : Array CpInfo) (this : Nat) (attrs : Array Attribute := #[]) (ms : Array MethodInfo := #[]) (fl : Nat := 33) (sup : Nat := 0) (ifs : Array Nat := #[]) (fds : Array FieldInfo := #[]) : ClassFile where
  minorVersion := 0
  majorVersion := 65
  constantPool := pool
  accessFlags := fl
  thisClass := this
  superClass := sup
  interfaces := ifs
  fields := fds
  methods := ms
  attributes := attrs
def plain (name : String) (sup : Option ClassId) : Class where
  name := name
  kind := .ordinary
  loader := none
  accessFlags := 33
  super := sup
  interfaces := #[]
  cf := none
  fields := #[]
  methods := #[]
  instanceTypes := #[]
  staticTypes := #[]
  resolved := #[]
  callSites := []
  init := .initialized
  statics := none
  mirror := none

def pool0 : Array CpInfo := pool [(5, u "<init>"), (0, u "()V"), (1, .class_ 10), (1, u "java/lang/Object")] 113

def k0c0 : Code := { maxStack := 0, maxLocals := 1, code := object_method_1_code, exceptionTable := #[], attributes := #[] }
def k0m0 : Method := { name := "<init>", desc := "()V", sig := { parameters := [], returnType := none }, accessFlags := 1, code := some k0c0 }
/-- java/lang/Object -/
def k0 : Class := { plain "java/lang/Object" none with
  accessFlags := 33
  interfaces := #[]
  cf := some (fileOf pool0 8 #[] #[{ accessFlags := 1, nameIndex := 5, descriptorIndex := 6, attributes := #[] }] 33 0 #[] #[])
  fields := #[]
  methods := #[k0m0]
  instanceTypes := #[]
  staticTypes := #[]
  resolved := Array.replicate 124 none
  statics := none }

def pool1 : Array CpInfo := pool [(2, .class_ 4), (1, u "java/lang/Object"), (0, u "<init>"), (0, u "()V"), (0, .class_ 8), (0, u "java/lang/Long"), (0, .long 9223372036854775807), (1, .methodref 12 13), (0, .class_ 14), (0, .nameAndType 15 16), (0, u "com/example/libbrake/libbrake/DecisionEqualsPinLaw"), (0, u "waitFor"), (0, u "(ZZJ)J"), (0, .class_ 18), (0, u "com/example/libbrake/libbrake/Decision"), (0, .methodref 17 20), (0, .nameAndType 5 21), (0, u "(ZJJZ)V"), (0, .methodref 17 23), (0, .nameAndType 24 25), (0, u "equals"), (0, u "(Ljava/lang/Object;)Z"), (0, .methodref 7 27), (0, .nameAndType 28 29), (0, u "valueOf"), (0, u "(J)Ljava/lang/Long;"), (3, u "law"), (0, u "(IJJJJ)Z")] 2

def k1m0 : Method := { name := "<init>", desc := "()V", sig := { parameters := [], returnType := none }, accessFlags := 1, code := none }
def k1c1 : Code := { maxStack := 4, maxLocals := 6, code := method_2_code, exceptionTable := #[], attributes := #[] }
def k1m1 : Method := { name := "waitFor", desc := "(ZZJ)J", sig := { parameters := [.boolean, .boolean, .long], returnType := some .long }, accessFlags := 10, code := some k1c1 }
def k1c2 : Code := { maxStack := 8, maxLocals := 26, code := code, exceptionTable := #[], attributes := #[] }
def k1m2 : Method := { name := "law", desc := "(IJJJJ)Z", sig := { parameters := [.int, .long, .long, .long, .long], returnType := some .boolean }, accessFlags := 9, code := some k1c2 }
/-- com/example/libbrake/libbrake/DecisionEqualsPinLaw -/
def k1 : Class := { plain "com/example/libbrake/libbrake/DecisionEqualsPinLaw" (some 0) with
  accessFlags := 49
  interfaces := #[]
  cf := some (fileOf pool1 12 #[] #[{ accessFlags := 1, nameIndex := 5, descriptorIndex := 6, attributes := #[] }, { accessFlags := 10, nameIndex := 15, descriptorIndex := 16, attributes := #[] }, { accessFlags := 9, nameIndex := 33, descriptorIndex := 34, attributes := #[] }] 49 2 #[] #[])
  fields := #[]
  methods := #[k1m0, k1m1, k1m2]
  instanceTypes := #[]
  staticTypes := #[]
  resolved := Array.replicate 37 none
  statics := none }

def pool2 : Array CpInfo := pool [(1, .methodref 2 3), (0, .class_ 4), (0, .nameAndType 5 6), (0, u "java/lang/Object"), (0, u "<init>"), (0, u "()V"), (13, .fieldref 21 22), (0, .class_ 23), (0, .nameAndType 24 25), (0, u "com/example/libbrake/libbrake/Decision"), (0, u "allowed"), (0, u "Z"), (0, .fieldref 21 27), (0, .nameAndType 28 29), (0, u "remaining"), (0, u "J"), (0, .fieldref 21 31), (0, .nameAndType 32 29), (0, u "waitMillis"), (0, .fieldref 21 34), (0, .nameAndType 35 25), (0, u "fallback"), (2, u "(ZJJZ)V"), (30, u "equals"), (0, u "(Ljava/lang/Object;)Z")] 27

def k2c0 : Code := { maxStack := 4, maxLocals := 7, code := prog_12_method_1_code, exceptionTable := #[], attributes := #[] }
def k2m0 : Method := { name := "<init>", desc := "(ZJJZ)V", sig := { parameters := [.boolean, .long, .long, .boolean], returnType := none }, accessFlags := 0, code := some k2c0 }
def k2c1 : Code := { maxStack := 4, maxLocals := 3, code := prog_12_method_8_code, exceptionTable := #[], attributes := #[] }
def k2m1 : Method := { name := "equals", desc := "(Ljava/lang/Object;)Z", sig := { parameters := [(.object "java/lang/Object")], returnType := some .boolean }, accessFlags := 1, code := some k2c1 }
/-- com/example/libbrake/libbrake/Decision -/
def k2 : Class := { plain "com/example/libbrake/libbrake/Decision" (some 0) with
  accessFlags := 33
  interfaces := #[]
  cf := some (fileOf pool2 21 #[] #[{ accessFlags := 0, nameIndex := 5, descriptorIndex := 38, attributes := #[] }, { accessFlags := 1, nameIndex := 69, descriptorIndex := 70, attributes := #[] }] 33 2 #[] #[{ accessFlags := 18, nameIndex := 24, descriptorIndex := 25, attributes := #[] }, { accessFlags := 18, nameIndex := 28, descriptorIndex := 29, attributes := #[] }, { accessFlags := 18, nameIndex := 32, descriptorIndex := 29, attributes := #[] }, { accessFlags := 18, nameIndex := 35, descriptorIndex := 25, attributes := #[] }])
  fields := #[{ name := "allowed", type := .boolean, accessFlags := 18, slot := 0, constantValue := 0 }, { name := "remaining", type := .long, accessFlags := 18, slot := 1, constantValue := 0 }, { name := "waitMillis", type := .long, accessFlags := 18, slot := 2, constantValue := 0 }, { name := "fallback", type := .boolean, accessFlags := 18, slot := 3, constantValue := 0 }]
  methods := #[k2m0, k2m1]
  instanceTypes := #[.boolean, .long, .long, .boolean]
  staticTypes := #[]
  resolved := Array.replicate 98 none
  statics := none }

def pool3 : Array CpInfo := pool [(1, .class_ 2), (0, u "java/io/Serializable"), (0, .class_ 4), (0, u "java/lang/Object")] 2

/-- java/io/Serializable -/
def k3 : Class := { plain "java/io/Serializable" (some 0) with
  accessFlags := 1537
  interfaces := #[]
  cf := some (fileOf pool3 1 #[] #[] 1537 3 #[] #[])
  fields := #[]
  methods := #[]
  instanceTypes := #[]
  staticTypes := #[]
  resolved := Array.replicate 7 none
  statics := none }

def pool4 : Array CpInfo := pool [(1, .methodref 2 3), (0, .class_ 4), (0, .nameAndType 5 6), (0, u "java/lang/Object"), (0, u "<init>"), (0, u "()V"), (1, .class_ 10), (1, u "java/lang/Number"), (2, .class_ 14), (0, u "java/io/Serializable"), (0, u "serialVersionUID"), (0, u "J")] 20

def k4c0 : Code := { maxStack := 1, maxLocals := 1, code := jdk_18_method_1_code, exceptionTable := #[], attributes := #[] }
def k4m0 : Method := { name := "<init>", desc := "()V", sig := { parameters := [], returnType := none }, accessFlags := 1, code := some k4c0 }
/-- java/lang/Number -/
def k4 : Class := { plain "java/lang/Number" (some 0) with
  accessFlags := 1057
  interfaces := #[3]
  cf := some (fileOf pool4 8 #[] #[{ accessFlags := 1, nameIndex := 5, descriptorIndex := 6, attributes := #[] }] 1057 2 #[13] #[{ accessFlags := 26, nameIndex := 15, descriptorIndex := 16, attributes := #[] }])
  fields := #[{ name := "serialVersionUID", type := .long, accessFlags := 26, slot := 0, constantValue := 0 }]
  methods := #[k4m0]
  instanceTypes := #[]
  staticTypes := #[.long]
  resolved := Array.replicate 37 none
  statics := none }

def pool5 : Array CpInfo := pool [(1, .class_ 2), (0, u "java/lang/Comparable"), (0, .class_ 4), (0, u "java/lang/Object")] 7

/-- java/lang/Comparable -/
def k5 : Class := { plain "java/lang/Comparable" (some 0) with
  accessFlags := 1537
  interfaces := #[]
  cf := some (fileOf pool5 1 #[] #[] 1537 3 #[] #[])
  fields := #[]
  methods := #[]
  instanceTypes := #[]
  staticTypes := #[]
  resolved := Array.replicate 12 none
  statics := none }

def pool6 : Array CpInfo := pool [(1, .class_ 2), (0, u "java/lang/constant/Constable"), (0, .class_ 4), (0, u "java/lang/Object")] 6

/-- java/lang/constant/Constable -/
def k6 : Class := { plain "java/lang/constant/Constable" (some 0) with
  accessFlags := 1537
  interfaces := #[]
  cf := some (fileOf pool6 1 #[] #[] 1537 3 #[] #[])
  fields := #[]
  methods := #[]
  instanceTypes := #[]
  staticTypes := #[]
  resolved := Array.replicate 11 none
  statics := none }

def pool7 : Array CpInfo := pool [(1, .class_ 2), (0, u "java/lang/constant/ConstantDesc"), (0, .class_ 4), (0, u "java/lang/Object")] 32

/-- java/lang/constant/ConstantDesc -/
def k7 : Class := { plain "java/lang/constant/ConstantDesc" (some 0) with
  accessFlags := 1537
  interfaces := #[]
  cf := some (fileOf pool7 1 #[] #[] 1537 3 #[] #[])
  fields := #[]
  methods := #[]
  instanceTypes := #[]
  staticTypes := #[]
  resolved := Array.replicate 37 none
  statics := none }

def pool8 : Array CpInfo := pool [(1, .class_ 2), (0, u "java/lang/Long"), (55, .nameAndType 59 60), (0, u "<init>"), (0, u "()V"), (24, u "valueOf"), (143, u "(J)Ljava/lang/Long;"), (0, .long 18446744073709551488), (1, .long 127), (1, .fieldref 235 236), (0, .class_ 237), (0, .nameAndType 238 239), (0, u "java/lang/Long$LongCache"), (0, u "cache"), (0, u "[Ljava/lang/Long;"), (0, .methodref 1 241), (0, .nameAndType 59 242), (0, u "(J)V"), (27, .methodref 271 58), (0, .class_ 272), (0, u "java/lang/Number"), (0, .fieldref 1 274), (0, .nameAndType 275 276), (0, u "value"), (0, u "J"), (84, u "TYPE"), (0, u "Ljava/lang/Class;"), (0, .class_ 364), (0, u "java/lang/Comparable"), (0, .class_ 366), (0, u "java/lang/constant/Constable"), (0, .class_ 368), (0, u "java/lang/constant/ConstantDesc"), (0, u "MIN_VALUE"), (1, u "MAX_VALUE"), (4, u "SIZE"), (0, u "I"), (1, u "BYTES"), (1, u "serialVersionUID")] 142

def k8c0 : Code := { maxStack := 4, maxLocals := 3, code := jdk_35_method_24_code, exceptionTable := #[], attributes := #[] }
def k8m0 : Method := { name := "valueOf", desc := "(J)Ljava/lang/Long;", sig := { parameters := [.long], returnType := some (.object "java/lang/Long") }, accessFlags := 9, code := some k8c0 }
def k8c1 : Code := { maxStack := 3, maxLocals := 3, code := jdk_35_method_26_code, exceptionTable := #[], attributes := #[] }
def k8m1 : Method := { name := "<init>", desc := "(J)V", sig := { parameters := [.long], returnType := none }, accessFlags := 1, code := some k8c1 }
/-- java/lang/Long -/
def k8 : Class := { plain "java/lang/Long" (some 4) with
  accessFlags := 49
  interfaces := #[5, 6, 7]
  cf := some (fileOf pool8 1 #[.nestMembers #[235]] #[{ accessFlags := 9, nameIndex := 85, descriptorIndex := 229, attributes := #[] }, { accessFlags := 1, nameIndex := 59, descriptorIndex := 242, attributes := #[] }] 49 271 #[363, 365, 367] #[{ accessFlags := 25, nameIndex := 369, descriptorIndex := 276, attributes := #[] }, { accessFlags := 25, nameIndex := 371, descriptorIndex := 276, attributes := #[] }, { accessFlags := 25, nameIndex := 361, descriptorIndex := 362, attributes := #[] }, { accessFlags := 18, nameIndex := 275, descriptorIndex := 276, attributes := #[] }, { accessFlags := 25, nameIndex := 376, descriptorIndex := 377, attributes := #[] }, { accessFlags := 25, nameIndex := 379, descriptorIndex := 377, attributes := #[] }, { accessFlags := 26, nameIndex := 381, descriptorIndex := 276, attributes := #[] }])
  fields := #[{ name := "MIN_VALUE", type := .long, accessFlags := 25, slot := 0, constantValue := 0 }, { name := "MAX_VALUE", type := .long, accessFlags := 25, slot := 1, constantValue := 0 }, { name := "TYPE", type := (.object "java/lang/Class"), accessFlags := 25, slot := 2, constantValue := 0 }, { name := "value", type := .long, accessFlags := 18, slot := 0, constantValue := 0 }, { name := "SIZE", type := .int, accessFlags := 25, slot := 3, constantValue := 0 }, { name := "BYTES", type := .int, accessFlags := 25, slot := 4, constantValue := 0 }, { name := "serialVersionUID", type := .long, accessFlags := 26, slot := 5, constantValue := 0 }]
  methods := #[k8m0, k8m1]
  instanceTypes := #[.long]
  staticTypes := #[.long, .long, (.object "java/lang/Class"), .int, .int, .long]
  resolved := Array.replicate 524 none
  statics := none }

def pool9 : Array CpInfo := pool [(2, .class_ 4), (1, u "java/lang/Object"), (0, u "<init>"), (0, u "()V"), (0, .class_ 8), (0, u "java/lang/Long"), (7, .class_ 18), (1, u "java/lang/Long$LongCache"), (0, u "$assertionsDisabled"), (0, u "Z"), (8, u "archivedCache"), (0, u "[Ljava/lang/Long;"), (7, u "cache")] 24

def k9m0 : Method := { name := "<init>", desc := "()V", sig := { parameters := [], returnType := none }, accessFlags := 2, code := none }
/-- java/lang/Long$LongCache -/
def k9 : Class := { plain "java/lang/Long$LongCache" (some 0) with
  accessFlags := 48
  interfaces := #[]
  cf := some (fileOf pool9 16 #[.nestHost 7] #[{ accessFlags := 2, nameIndex := 5, descriptorIndex := 6, attributes := #[] }] 48 2 #[] #[{ accessFlags := 24, nameIndex := 38, descriptorIndex := 30, attributes := #[] }, { accessFlags := 8, nameIndex := 29, descriptorIndex := 30, attributes := #[] }, { accessFlags := 4120, nameIndex := 19, descriptorIndex := 20, attributes := #[] }])
  fields := #[{ name := "cache", type := (.array (.object "java/lang/Long")), accessFlags := 24, slot := 0, constantValue := 0 }, { name := "archivedCache", type := (.array (.object "java/lang/Long")), accessFlags := 8, slot := 1, constantValue := 0 }, { name := "$assertionsDisabled", type := .boolean, accessFlags := 4120, slot := 2, constantValue := 0 }]
  methods := #[k9m0]
  instanceTypes := #[]
  staticTypes := #[(.array (.object "java/lang/Long")), (.array (.object "java/lang/Long")), .boolean]
  resolved := Array.replicate 63 none
  statics := some 0 }

def pool10 : Array CpInfo := pool [(1, u "java/lang/Cloneable"), (0, .class_ 1), (0, u "java/lang/Object"), (0, .class_ 3)] 3

/-- java/lang/Cloneable -/
def k10 : Class := { plain "java/lang/Cloneable" (some 0) with
  accessFlags := 1537
  interfaces := #[]
  cf := some (fileOf pool10 2 #[] #[] 1537 4 #[] #[])
  fields := #[]
  methods := #[]
  instanceTypes := #[]
  staticTypes := #[]
  resolved := Array.replicate 8 none
  statics := none }

/-- the primitive byte -/
def k11 : Class := { plain "byte" none with kind := .primitive 'B', accessFlags := 0x411 }
/-- [B -/
def k12 : Class := { plain "[B" (some 0) with kind := .array 11 .byte, interfaces := #[10, 3], accessFlags := 1041 }

/-- the primitive int -/
def k13 : Class := { plain "int" none with kind := .primitive 'I', accessFlags := 0x411 }
/-- [I -/
def k14 : Class := { plain "[I" (some 0) with kind := .array 13 .int, interfaces := #[10, 3], accessFlags := 1041 }

/-- [Ljava/lang/Long; -/
def k15 : Class := { plain "[Ljava/lang/Long;" (some 0) with kind := .array 8 (.object "java/lang/Long"), interfaces := #[10, 3], accessFlags := 1041 }

def heap : Heap := #[{ cls := 9, slots := #[.ref 1, .null, .int 0], vm := .statics 9 },
  { cls := 15, slots := #[.ref 2, .ref 3, .ref 4, .ref 5, .ref 6, .ref 7, .ref 8, .ref 9, .ref 10, .ref 11, .ref 12, .ref 13, .ref 14, .ref 15, .ref 16, .ref 17, .ref 18, .ref 19, .ref 20, .ref 21, .ref 22, .ref 23, .ref 24, .ref 25, .ref 26, .ref 27, .ref 28, .ref 29, .ref 30, .ref 31, .ref 32, .ref 33, .ref 34, .ref 35, .ref 36, .ref 37, .ref 38, .ref 39, .ref 40, .ref 41, .ref 42, .ref 43, .ref 44, .ref 45, .ref 46, .ref 47, .ref 48, .ref 49, .ref 50, .ref 51, .ref 52, .ref 53, .ref 54, .ref 55, .ref 56, .ref 57, .ref 58, .ref 59, .ref 60, .ref 61, .ref 62, .ref 63, .ref 64, .ref 65, .ref 66, .ref 67, .ref 68, .ref 69, .ref 70, .ref 71, .ref 72, .ref 73, .ref 74, .ref 75, .ref 76, .ref 77, .ref 78, .ref 79, .ref 80, .ref 81, .ref 82, .ref 83, .ref 84, .ref 85, .ref 86, .ref 87, .ref 88, .ref 89, .ref 90, .ref 91, .ref 92, .ref 93, .ref 94, .ref 95, .ref 96, .ref 97, .ref 98, .ref 99, .ref 100, .ref 101, .ref 102, .ref 103, .ref 104, .ref 105, .ref 106, .ref 107, .ref 108, .ref 109, .ref 110, .ref 111, .ref 112, .ref 113, .ref 114, .ref 115, .ref 116, .ref 117, .ref 118, .ref 119, .ref 120, .ref 121, .ref 122, .ref 123, .ref 124, .ref 125, .ref 126, .ref 127, .ref 128, .ref 129, .ref 130, .ref 131, .ref 132, .ref 133, .ref 134, .ref 135, .ref 136, .ref 137, .ref 138, .ref 139, .ref 140, .ref 141, .ref 142, .ref 143, .ref 144, .ref 145, .ref 146, .ref 147, .ref 148, .ref 149, .ref 150, .ref 151, .ref 152, .ref 153, .ref 154, .ref 155, .ref 156, .ref 157, .ref 158, .ref 159, .ref 160, .ref 161, .ref 162, .ref 163, .ref 164, .ref 165, .ref 166, .ref 167, .ref 168, .ref 169, .ref 170, .ref 171, .ref 172, .ref 173, .ref 174, .ref 175, .ref 176, .ref 177, .ref 178, .ref 179, .ref 180, .ref 181, .ref 182, .ref 183, .ref 184, .ref 185, .ref 186, .ref 187, .ref 188, .ref 189, .ref 190, .ref 191, .ref 192, .ref 193, .ref 194, .ref 195, .ref 196, .ref 197, .ref 198, .ref 199, .ref 200, .ref 201, .ref 202, .ref 203, .ref 204, .ref 205, .ref 206, .ref 207, .ref 208, .ref 209, .ref 210, .ref 211, .ref 212, .ref 213, .ref 214, .ref 215, .ref 216, .ref 217, .ref 218, .ref 219, .ref 220, .ref 221, .ref 222, .ref 223, .ref 224, .ref 225, .ref 226, .ref 227, .ref 228, .ref 229, .ref 230, .ref 231, .ref 232, .ref 233, .ref 234, .ref 235, .ref 236, .ref 237, .ref 238, .ref 239, .ref 240, .ref 241, .ref 242, .ref 243, .ref 244, .ref 245, .ref 246, .ref 247, .ref 248, .ref 249, .ref 250, .ref 251, .ref 252, .ref 253, .ref 254, .ref 255, .ref 256, .ref 257], vm := .none },
  { cls := 8, slots := #[.long (-128)], vm := .none },
  { cls := 8, slots := #[.long (-127)], vm := .none },
  { cls := 8, slots := #[.long (-126)], vm := .none },
  { cls := 8, slots := #[.long (-125)], vm := .none },
  { cls := 8, slots := #[.long (-124)], vm := .none },
  { cls := 8, slots := #[.long (-123)], vm := .none },
  { cls := 8, slots := #[.long (-122)], vm := .none },
  { cls := 8, slots := #[.long (-121)], vm := .none },
  { cls := 8, slots := #[.long (-120)], vm := .none },
  { cls := 8, slots := #[.long (-119)], vm := .none },
  { cls := 8, slots := #[.long (-118)], vm := .none },
  { cls := 8, slots := #[.long (-117)], vm := .none },
  { cls := 8, slots := #[.long (-116)], vm := .none },
  { cls := 8, slots := #[.long (-115)], vm := .none },
  { cls := 8, slots := #[.long (-114)], vm := .none },
  { cls := 8, slots := #[.long (-113)], vm := .none },
  { cls := 8, slots := #[.long (-112)], vm := .none },
  { cls := 8, slots := #[.long (-111)], vm := .none },
  { cls := 8, slots := #[.long (-110)], vm := .none },
  { cls := 8, slots := #[.long (-109)], vm := .none },
  { cls := 8, slots := #[.long (-108)], vm := .none },
  { cls := 8, slots := #[.long (-107)], vm := .none },
  { cls := 8, slots := #[.long (-106)], vm := .none },
  { cls := 8, slots := #[.long (-105)], vm := .none },
  { cls := 8, slots := #[.long (-104)], vm := .none },
  { cls := 8, slots := #[.long (-103)], vm := .none },
  { cls := 8, slots := #[.long (-102)], vm := .none },
  { cls := 8, slots := #[.long (-101)], vm := .none },
  { cls := 8, slots := #[.long (-100)], vm := .none },
  { cls := 8, slots := #[.long (-99)], vm := .none },
  { cls := 8, slots := #[.long (-98)], vm := .none },
  { cls := 8, slots := #[.long (-97)], vm := .none },
  { cls := 8, slots := #[.long (-96)], vm := .none },
  { cls := 8, slots := #[.long (-95)], vm := .none },
  { cls := 8, slots := #[.long (-94)], vm := .none },
  { cls := 8, slots := #[.long (-93)], vm := .none },
  { cls := 8, slots := #[.long (-92)], vm := .none },
  { cls := 8, slots := #[.long (-91)], vm := .none },
  { cls := 8, slots := #[.long (-90)], vm := .none },
  { cls := 8, slots := #[.long (-89)], vm := .none },
  { cls := 8, slots := #[.long (-88)], vm := .none },
  { cls := 8, slots := #[.long (-87)], vm := .none },
  { cls := 8, slots := #[.long (-86)], vm := .none },
  { cls := 8, slots := #[.long (-85)], vm := .none },
  { cls := 8, slots := #[.long (-84)], vm := .none },
  { cls := 8, slots := #[.long (-83)], vm := .none },
  { cls := 8, slots := #[.long (-82)], vm := .none },
  { cls := 8, slots := #[.long (-81)], vm := .none },
  { cls := 8, slots := #[.long (-80)], vm := .none },
  { cls := 8, slots := #[.long (-79)], vm := .none },
  { cls := 8, slots := #[.long (-78)], vm := .none },
  { cls := 8, slots := #[.long (-77)], vm := .none },
  { cls := 8, slots := #[.long (-76)], vm := .none },
  { cls := 8, slots := #[.long (-75)], vm := .none },
  { cls := 8, slots := #[.long (-74)], vm := .none },
  { cls := 8, slots := #[.long (-73)], vm := .none },
  { cls := 8, slots := #[.long (-72)], vm := .none },
  { cls := 8, slots := #[.long (-71)], vm := .none },
  { cls := 8, slots := #[.long (-70)], vm := .none },
  { cls := 8, slots := #[.long (-69)], vm := .none },
  { cls := 8, slots := #[.long (-68)], vm := .none },
  { cls := 8, slots := #[.long (-67)], vm := .none },
  { cls := 8, slots := #[.long (-66)], vm := .none },
  { cls := 8, slots := #[.long (-65)], vm := .none },
  { cls := 8, slots := #[.long (-64)], vm := .none },
  { cls := 8, slots := #[.long (-63)], vm := .none },
  { cls := 8, slots := #[.long (-62)], vm := .none },
  { cls := 8, slots := #[.long (-61)], vm := .none },
  { cls := 8, slots := #[.long (-60)], vm := .none },
  { cls := 8, slots := #[.long (-59)], vm := .none },
  { cls := 8, slots := #[.long (-58)], vm := .none },
  { cls := 8, slots := #[.long (-57)], vm := .none },
  { cls := 8, slots := #[.long (-56)], vm := .none },
  { cls := 8, slots := #[.long (-55)], vm := .none },
  { cls := 8, slots := #[.long (-54)], vm := .none },
  { cls := 8, slots := #[.long (-53)], vm := .none },
  { cls := 8, slots := #[.long (-52)], vm := .none },
  { cls := 8, slots := #[.long (-51)], vm := .none },
  { cls := 8, slots := #[.long (-50)], vm := .none },
  { cls := 8, slots := #[.long (-49)], vm := .none },
  { cls := 8, slots := #[.long (-48)], vm := .none },
  { cls := 8, slots := #[.long (-47)], vm := .none },
  { cls := 8, slots := #[.long (-46)], vm := .none },
  { cls := 8, slots := #[.long (-45)], vm := .none },
  { cls := 8, slots := #[.long (-44)], vm := .none },
  { cls := 8, slots := #[.long (-43)], vm := .none },
  { cls := 8, slots := #[.long (-42)], vm := .none },
  { cls := 8, slots := #[.long (-41)], vm := .none },
  { cls := 8, slots := #[.long (-40)], vm := .none },
  { cls := 8, slots := #[.long (-39)], vm := .none },
  { cls := 8, slots := #[.long (-38)], vm := .none },
  { cls := 8, slots := #[.long (-37)], vm := .none },
  { cls := 8, slots := #[.long (-36)], vm := .none },
  { cls := 8, slots := #[.long (-35)], vm := .none },
  { cls := 8, slots := #[.long (-34)], vm := .none },
  { cls := 8, slots := #[.long (-33)], vm := .none },
  { cls := 8, slots := #[.long (-32)], vm := .none },
  { cls := 8, slots := #[.long (-31)], vm := .none },
  { cls := 8, slots := #[.long (-30)], vm := .none },
  { cls := 8, slots := #[.long (-29)], vm := .none },
  { cls := 8, slots := #[.long (-28)], vm := .none },
  { cls := 8, slots := #[.long (-27)], vm := .none },
  { cls := 8, slots := #[.long (-26)], vm := .none },
  { cls := 8, slots := #[.long (-25)], vm := .none },
  { cls := 8, slots := #[.long (-24)], vm := .none },
  { cls := 8, slots := #[.long (-23)], vm := .none },
  { cls := 8, slots := #[.long (-22)], vm := .none },
  { cls := 8, slots := #[.long (-21)], vm := .none },
  { cls := 8, slots := #[.long (-20)], vm := .none },
  { cls := 8, slots := #[.long (-19)], vm := .none },
  { cls := 8, slots := #[.long (-18)], vm := .none },
  { cls := 8, slots := #[.long (-17)], vm := .none },
  { cls := 8, slots := #[.long (-16)], vm := .none },
  { cls := 8, slots := #[.long (-15)], vm := .none },
  { cls := 8, slots := #[.long (-14)], vm := .none },
  { cls := 8, slots := #[.long (-13)], vm := .none },
  { cls := 8, slots := #[.long (-12)], vm := .none },
  { cls := 8, slots := #[.long (-11)], vm := .none },
  { cls := 8, slots := #[.long (-10)], vm := .none },
  { cls := 8, slots := #[.long (-9)], vm := .none },
  { cls := 8, slots := #[.long (-8)], vm := .none },
  { cls := 8, slots := #[.long (-7)], vm := .none },
  { cls := 8, slots := #[.long (-6)], vm := .none },
  { cls := 8, slots := #[.long (-5)], vm := .none },
  { cls := 8, slots := #[.long (-4)], vm := .none },
  { cls := 8, slots := #[.long (-3)], vm := .none },
  { cls := 8, slots := #[.long (-2)], vm := .none },
  { cls := 8, slots := #[.long (-1)], vm := .none },
  { cls := 8, slots := #[.long 0], vm := .none },
  { cls := 8, slots := #[.long 1], vm := .none },
  { cls := 8, slots := #[.long 2], vm := .none },
  { cls := 8, slots := #[.long 3], vm := .none },
  { cls := 8, slots := #[.long 4], vm := .none },
  { cls := 8, slots := #[.long 5], vm := .none },
  { cls := 8, slots := #[.long 6], vm := .none },
  { cls := 8, slots := #[.long 7], vm := .none },
  { cls := 8, slots := #[.long 8], vm := .none },
  { cls := 8, slots := #[.long 9], vm := .none },
  { cls := 8, slots := #[.long 10], vm := .none },
  { cls := 8, slots := #[.long 11], vm := .none },
  { cls := 8, slots := #[.long 12], vm := .none },
  { cls := 8, slots := #[.long 13], vm := .none },
  { cls := 8, slots := #[.long 14], vm := .none },
  { cls := 8, slots := #[.long 15], vm := .none },
  { cls := 8, slots := #[.long 16], vm := .none },
  { cls := 8, slots := #[.long 17], vm := .none },
  { cls := 8, slots := #[.long 18], vm := .none },
  { cls := 8, slots := #[.long 19], vm := .none },
  { cls := 8, slots := #[.long 20], vm := .none },
  { cls := 8, slots := #[.long 21], vm := .none },
  { cls := 8, slots := #[.long 22], vm := .none },
  { cls := 8, slots := #[.long 23], vm := .none },
  { cls := 8, slots := #[.long 24], vm := .none },
  { cls := 8, slots := #[.long 25], vm := .none },
  { cls := 8, slots := #[.long 26], vm := .none },
  { cls := 8, slots := #[.long 27], vm := .none },
  { cls := 8, slots := #[.long 28], vm := .none },
  { cls := 8, slots := #[.long 29], vm := .none },
  { cls := 8, slots := #[.long 30], vm := .none },
  { cls := 8, slots := #[.long 31], vm := .none },
  { cls := 8, slots := #[.long 32], vm := .none },
  { cls := 8, slots := #[.long 33], vm := .none },
  { cls := 8, slots := #[.long 34], vm := .none },
  { cls := 8, slots := #[.long 35], vm := .none },
  { cls := 8, slots := #[.long 36], vm := .none },
  { cls := 8, slots := #[.long 37], vm := .none },
  { cls := 8, slots := #[.long 38], vm := .none },
  { cls := 8, slots := #[.long 39], vm := .none },
  { cls := 8, slots := #[.long 40], vm := .none },
  { cls := 8, slots := #[.long 41], vm := .none },
  { cls := 8, slots := #[.long 42], vm := .none },
  { cls := 8, slots := #[.long 43], vm := .none },
  { cls := 8, slots := #[.long 44], vm := .none },
  { cls := 8, slots := #[.long 45], vm := .none },
  { cls := 8, slots := #[.long 46], vm := .none },
  { cls := 8, slots := #[.long 47], vm := .none },
  { cls := 8, slots := #[.long 48], vm := .none },
  { cls := 8, slots := #[.long 49], vm := .none },
  { cls := 8, slots := #[.long 50], vm := .none },
  { cls := 8, slots := #[.long 51], vm := .none },
  { cls := 8, slots := #[.long 52], vm := .none },
  { cls := 8, slots := #[.long 53], vm := .none },
  { cls := 8, slots := #[.long 54], vm := .none },
  { cls := 8, slots := #[.long 55], vm := .none },
  { cls := 8, slots := #[.long 56], vm := .none },
  { cls := 8, slots := #[.long 57], vm := .none },
  { cls := 8, slots := #[.long 58], vm := .none },
  { cls := 8, slots := #[.long 59], vm := .none },
  { cls := 8, slots := #[.long 60], vm := .none },
  { cls := 8, slots := #[.long 61], vm := .none },
  { cls := 8, slots := #[.long 62], vm := .none },
  { cls := 8, slots := #[.long 63], vm := .none },
  { cls := 8, slots := #[.long 64], vm := .none },
  { cls := 8, slots := #[.long 65], vm := .none },
  { cls := 8, slots := #[.long 66], vm := .none },
  { cls := 8, slots := #[.long 67], vm := .none },
  { cls := 8, slots := #[.long 68], vm := .none },
  { cls := 8, slots := #[.long 69], vm := .none },
  { cls := 8, slots := #[.long 70], vm := .none },
  { cls := 8, slots := #[.long 71], vm := .none },
  { cls := 8, slots := #[.long 72], vm := .none },
  { cls := 8, slots := #[.long 73], vm := .none },
  { cls := 8, slots := #[.long 74], vm := .none },
  { cls := 8, slots := #[.long 75], vm := .none },
  { cls := 8, slots := #[.long 76], vm := .none },
  { cls := 8, slots := #[.long 77], vm := .none },
  { cls := 8, slots := #[.long 78], vm := .none },
  { cls := 8, slots := #[.long 79], vm := .none },
  { cls := 8, slots := #[.long 80], vm := .none },
  { cls := 8, slots := #[.long 81], vm := .none },
  { cls := 8, slots := #[.long 82], vm := .none },
  { cls := 8, slots := #[.long 83], vm := .none },
  { cls := 8, slots := #[.long 84], vm := .none },
  { cls := 8, slots := #[.long 85], vm := .none },
  { cls := 8, slots := #[.long 86], vm := .none },
  { cls := 8, slots := #[.long 87], vm := .none },
  { cls := 8, slots := #[.long 88], vm := .none },
  { cls := 8, slots := #[.long 89], vm := .none },
  { cls := 8, slots := #[.long 90], vm := .none },
  { cls := 8, slots := #[.long 91], vm := .none },
  { cls := 8, slots := #[.long 92], vm := .none },
  { cls := 8, slots := #[.long 93], vm := .none },
  { cls := 8, slots := #[.long 94], vm := .none },
  { cls := 8, slots := #[.long 95], vm := .none },
  { cls := 8, slots := #[.long 96], vm := .none },
  { cls := 8, slots := #[.long 97], vm := .none },
  { cls := 8, slots := #[.long 98], vm := .none },
  { cls := 8, slots := #[.long 99], vm := .none },
  { cls := 8, slots := #[.long 100], vm := .none },
  { cls := 8, slots := #[.long 101], vm := .none },
  { cls := 8, slots := #[.long 102], vm := .none },
  { cls := 8, slots := #[.long 103], vm := .none },
  { cls := 8, slots := #[.long 104], vm := .none },
  { cls := 8, slots := #[.long 105], vm := .none },
  { cls := 8, slots := #[.long 106], vm := .none },
  { cls := 8, slots := #[.long 107], vm := .none },
  { cls := 8, slots := #[.long 108], vm := .none },
  { cls := 8, slots := #[.long 109], vm := .none },
  { cls := 8, slots := #[.long 110], vm := .none },
  { cls := 8, slots := #[.long 111], vm := .none },
  { cls := 8, slots := #[.long 112], vm := .none },
  { cls := 8, slots := #[.long 113], vm := .none },
  { cls := 8, slots := #[.long 114], vm := .none },
  { cls := 8, slots := #[.long 115], vm := .none },
  { cls := 8, slots := #[.long 116], vm := .none },
  { cls := 8, slots := #[.long 117], vm := .none },
  { cls := 8, slots := #[.long 118], vm := .none },
  { cls := 8, slots := #[.long 119], vm := .none },
  { cls := 8, slots := #[.long 120], vm := .none },
  { cls := 8, slots := #[.long 121], vm := .none },
  { cls := 8, slots := #[.long 122], vm := .none },
  { cls := 8, slots := #[.long 123], vm := .none },
  { cls := 8, slots := #[.long 124], vm := .none },
  { cls := 8, slots := #[.long 125], vm := .none },
  { cls := 8, slots := #[.long 126], vm := .none },
  { cls := 8, slots := #[.long 127], vm := .none }]
def classes : Array Class := #[k0, k1, k2, k3, k4, k5, k6, k7, k8, k9, k10, k11, k12, k13, k14, k15]
def interned : List (Array UInt16 × Addr) := []
def slotsUsed : Nat := 515
def theMethod : MethodId := ⟨1, 2⟩
def args0 : Array Value := #[.int 5, .long 3, .long 4, .long 5, .long 6]
def aboutOver (below : List Frame) : State where
  vm := { classes := classes, interned := interned.toArray }
  heap := heap
  slotsUsed := slotsUsed
  threads := #[{ frames := .invoking theMethod args0 :: below }]
def below0 : List Frame := [.native { method := ⟨0, 0⟩, args := #[] }]
def about1 : State := aboutOver below0
def p0 : Program := .bare "" "" ""
def e0 : Env := launch0.env 0 0 0
theorem w_frames : about1.frames = Frame.invoking theMethod args0 :: below0 := rfl
set_option maxRecDepth 65536 in
theorem w_args : argsFit about1.vm theMethod args0 = true := by decide +kernel
set_option maxRecDepth 65536 in
theorem w_heap : heapFits about1 = true := by decide +kernel
set_option maxRecDepth 65536 in
theorem w_runnable : about1.curStatus? = some .runnable := by decide +kernel
set_option maxRecDepth 65536 in
theorem w_alone : about1.alone = true := by decide +kernel
set_option maxRecDepth 65536 in
theorem w_named : about1.methodNamed? x = some theMethod := by decide +kernel
set_option maxRecDepth 65536 in
theorem w_hears : about1.hears theMethod below0 = true := by decide +kernel
set_option maxRecDepth 65536 in
theorem w_ripe : about1.ripe theMethod args0 below0 = true := by decide +kernel
theorem w_running : about1.status = .running := rfl
set_option maxRecDepth 65536 in
theorem w_room : about1.hasRoom e0.platform room_1 = true :=
  launch0.hasRoom_least _ room_1 (by decide +kernel) (by decide +kernel) (by decide +kernel) (by decide +kernel) (by decide +kernel) (by decide +kernel)
theorem allAtoms_all (ts : List Jvm.Cond) (a : Array Jvm.Value) (st : Jvm.State) : (allAtoms ts).before a st = ts.all (fun c => c.before a st) := by
  induction ts with
  | nil => rfl
  | cons c t ih =>
    show (Jvm.Cond.and c (allAtoms t)).before a st = _
    rw [Jvm.Cond.before_and, ih, List.all_cons]
def words1 : List Jvm.Cond := Jvm.Cond.code x code maxLocals ret :: tables_1
/-- a 'code' word, met by the world's own term for the bytes: nothing is compared byte by byte -/
theorem code_word {y : MethodName} {bytes : ByteArray} {mx : Nat} {rt : Option FieldType} {a : Array Value} {s : State} {m : MethodId} {meth : Method} {c : Code} (h1 : s.methodNamed? y = some m) (h2 : s.vm.method? m = some meth) (h3 : meth.code = some c) (h4 : c.code = bytes)
    (h5 : (c.maxLocals == mx && c.exceptionTable.isEmpty && decide (c.maxStack ≤ mostOperands) && decide (meth.sig.returnType = rt) && !meth.locks && decide (parseMethodDescriptor y.desc = some meth.sig)) = true) : (Jvm.Cond.code y bytes mx rt).before a s = true := by
  simp only [Bool.and_eq_true, beq_iff_eq, Bool.not_eq_true', decide_eq_true_eq] at h5
  obtain ⟨⟨⟨⟨⟨g1, g2⟩, g3⟩, g4⟩, g5⟩, g6⟩ := h5
  simp [Cond.before, Cond.holds, Cond.value, h1, h2, h3, h4, g1, g2, g3, g4, g5, g6]
def isCode : Jvm.Cond → Bool
  | .code _ _ _ _ => true
  | _ => false
theorem all_split {L : List Jvm.Cond} {P : Jvm.Cond → Bool} (h1 : L.all (fun c => isCode c || P c) = true) (h2 : ∀ c ∈ L.filter isCode, P c = true) : L.all P = true := by
  refine List.all_eq_true.mpr fun c hc => ?_
  have h := List.all_eq_true.mp h1 c hc
  rcases Bool.eq_false_or_eq_true (isCode c) with hi | hi
  · exact h2 c (List.mem_filter.mpr ⟨hc, hi⟩)
  · simpa [hi] using h
set_option maxRecDepth 65536 in
theorem w_c0 : (Jvm.Cond.code x code maxLocals ret).before args0 about1 = true := code_word (m := ⟨1, 2⟩) (meth := k1m2) (c := k1c2) (by decide +kernel) rfl rfl rfl (by decide +kernel)
set_option maxRecDepth 65536 in
theorem w_c1 : (Jvm.Cond.code ({ cls := "com/example/libbrake/libbrake/DecisionEqualsPinLaw", name := "waitFor", desc := "(ZZJ)J" } : Jvm.MethodName) method_2_code (6 : Nat) (Option.some Jvm.ClassFile.FieldType.long)).before args0 about1 = true := code_word (m := ⟨1, 1⟩) (meth := k1m1) (c := k1c1) (by decide +kernel) rfl rfl rfl (by decide +kernel)
set_option maxRecDepth 65536 in
theorem w_c2 : (Jvm.Cond.code ({ cls := "com/example/libbrake/libbrake/Decision", name := "<init>", desc := "(ZJJZ)V" } : Jvm.MethodName) prog_12_method_1_code (7 : Nat) (Option.none : Option Jvm.ClassFile.FieldType)).before args0 about1 = true := code_word (m := ⟨2, 0⟩) (meth := k2m0) (c := k2c0) (by decide +kernel) rfl rfl rfl (by decide +kernel)
set_option maxRecDepth 65536 in
theorem w_c3 : (Jvm.Cond.code ({ cls := "java/lang/Object", name := "<init>", desc := "()V" } : Jvm.MethodName) object_method_1_code (1 : Nat) (Option.none : Option Jvm.ClassFile.FieldType)).before args0 about1 = true := code_word (m := ⟨0, 0⟩) (meth := k0m0) (c := k0c0) (by decide +kernel) rfl rfl rfl (by decide +kernel)
set_option maxRecDepth 65536 in
theorem w_c4 : (Jvm.Cond.code ({ cls := "com/example/libbrake/libbrake/Decision", name := "equals", desc := "(Ljava/lang/Object;)Z" } : Jvm.MethodName) prog_12_method_8_code (3 : Nat) (Option.some Jvm.ClassFile.FieldType.boolean)).before args0 about1 = true := code_word (m := ⟨2, 1⟩) (meth := k2m1) (c := k2c1) (by decide +kernel) rfl rfl rfl (by decide +kernel)
set_option maxRecDepth 65536 in
theorem w_c5 : (Jvm.Cond.code ({ cls := "java/lang/Long", name := "valueOf", desc := "(J)Ljava/lang/Long;" } : Jvm.MethodName) jdk_35_method_24_code (3 : Nat) (Option.some (Jvm.ClassFile.FieldType.object "java/lang/Long"))).before args0 about1 = true := code_word (m := ⟨8, 0⟩) (meth := k8m0) (c := k8c0) (by decide +kernel) rfl rfl rfl (by decide +kernel)
set_option maxRecDepth 65536 in
theorem w_c6 : (Jvm.Cond.code ({ cls := "java/lang/Long", name := "<init>", desc := "(J)V" } : Jvm.MethodName) jdk_35_method_26_code (3 : Nat) (Option.none : Option Jvm.ClassFile.FieldType)).before args0 about1 = true := code_word (m := ⟨8, 1⟩) (meth := k8m1) (c := k8c1) (by decide +kernel) rfl rfl rfl (by decide +kernel)
set_option maxRecDepth 65536 in
theorem w_c7 : (Jvm.Cond.code ({ cls := "java/lang/Number", name := "<init>", desc := "()V" } : Jvm.MethodName) jdk_18_method_1_code (1 : Nat) (Option.none : Option Jvm.ClassFile.FieldType)).before args0 about1 = true := code_word (m := ⟨4, 0⟩) (meth := k4m0) (c := k4c0) (by decide +kernel) rfl rfl rfl (by decide +kernel)
def codes1 : List Jvm.Cond := [Jvm.Cond.code x code maxLocals ret, Jvm.Cond.code ({ cls := "com/example/libbrake/libbrake/DecisionEqualsPinLaw", name := "waitFor", desc := "(ZZJ)J" } : Jvm.MethodName) method_2_code (6 : Nat) (Option.some Jvm.ClassFile.FieldType.long), Jvm.Cond.code ({ cls := "com/example/libbrake/libbrake/Decision", name := "<init>", desc := "(ZJJZ)V" } : Jvm.MethodName) prog_12_method_1_code (7 : Nat) (Option.none : Option Jvm.ClassFile.FieldType), Jvm.Cond.code ({ cls := "java/lang/Object", name := "<init>", desc := "()V" } : Jvm.MethodName) object_method_1_code (1 : Nat) (Option.none : Option Jvm.ClassFile.FieldType), Jvm.Cond.code ({ cls := "com/example/libbrake/libbrake/Decision", name := "equals", desc := "(Ljava/lang/Object;)Z" } : Jvm.MethodName) prog_12_method_8_code (3 : Nat) (Option.some Jvm.ClassFile.FieldType.boolean), Jvm.Cond.code ({ cls := "java/lang/Long", name := "valueOf", desc := "(J)Ljava/lang/Long;" } : Jvm.MethodName) jdk_35_method_24_code (3 : Nat) (Option.some (Jvm.ClassFile.FieldType.object "java/lang/Long")), Jvm.Cond.code ({ cls := "java/lang/Long", name := "<init>", desc := "(J)V" } : Jvm.MethodName) jdk_35_method_26_code (3 : Nat) (Option.none : Option Jvm.ClassFile.FieldType), Jvm.Cond.code ({ cls := "java/lang/Number", name := "<init>", desc := "()V" } : Jvm.MethodName) jdk_18_method_1_code (1 : Nat) (Option.none : Option Jvm.ClassFile.FieldType)]
set_option maxRecDepth 65536 in
theorem codes_eq : words1.filter isCode = codes1 := rfl
theorem w_codes : ∀ c ∈ words1.filter isCode, c.before args0 about1 = true := by
  rw [codes_eq]
  intro c hc
  simp only [codes1, List.mem_cons, List.not_mem_nil, or_false] at hc
  rcases hc with rfl | rfl | rfl | rfl | rfl | rfl | rfl | rfl
  · exact w_c0
  · exact w_c1
  · exact w_c2
  · exact w_c3
  · exact w_c4
  · exact w_c5
  · exact w_c6
  · exact w_c7
set_option maxRecDepth 65536 in
theorem w_t1 : (words1.take 24).all (fun c => isCode c || c.before args0 about1) = true := by decide +kernel
set_option maxRecDepth 65536 in
theorem w_t2 : ((words1.drop 24).take 24).all (fun c => isCode c || c.before args0 about1) = true := by decide +kernel
set_option maxRecDepth 65536 in
theorem w_t3 : ((words1.drop 24).drop 24).all (fun c => isCode c || c.before args0 about1) = true := by decide +kernel
theorem w_tables : (allAtoms (Jvm.Cond.code x code maxLocals ret :: tables_1)).before args0 about1 = true := by
  rw [allAtoms_all]
  show words1.all (fun c => c.before args0 about1) = true
  refine all_split ?_ w_codes
  rw [← List.take_append_drop 24 words1, List.all_append, w_t1, ← List.take_append_drop 24 (words1.drop 24), List.all_append, w_t2, w_t3]
  rfl
set_option maxRecDepth 65536 in
theorem w_rest : rest_1_c.before args0 about1 = true := by decide +kernel
set_option maxRecDepth 65536 in
theorem w_case : (Jvm.Cond.and given_1 narrow_1).before args0 about1 = true := by decide +kernel
theorem w_applies : (headSpec (Jvm.Cond.code x code maxLocals ret :: tables_1) room_1).applies x e0.platform about1 = true :=
  (Spec.applies_iff w_frames).mpr ⟨w_running, w_runnable, w_alone, w_named, w_hears, w_ripe, w_room, w_tables⟩
theorem atStart : AtStart classFile x code maxLocals ret World_1 tables_1 room_1 Calls_1 rest_1 Pre_1 launch0 p0 e0 about1 theMethod args0 below0 :=
  ⟨lists_1, trivial, launch0.admits_env _ _ _, launch0.least_env, fairChoices_fair.cas, fairChoices_fair.clock, w_frames, w_args, w_heap, w_applies, trivial, w_rest, w_case⟩
end start1
theorem witness_1 : WitnessClaimed_1 := ⟨start1.p0, start1.e0, start1.about1, start1.theMethod, start1.args0, start1.below0, start1.atStart⟩
end Jvm.Pilot.@@N@@
