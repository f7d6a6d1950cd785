import JvmDerived
import JvmDerived.Pilot.@@N@@Statement
import JvmDerived.Pilot.@@N@@Code
set_option linter.unusedVariables false
set_option linter.unusedSimpArgs false
namespace Jvm.Pilot.@@N@@
open Jvm Jvm.ClassFile Sem Op Lib Jvm.Free Jvm.Stand Jvm.LawKit Jvm.RoadKit Bundle Jvm.Pilot.@@N@@.Jvm.D
def Go (p : Program) (e : Env) (below : List Frame) (S : State) (P : State → Outcome → Prop) : Prop := ∃ t o, Steps p.tables e below S t ∧ P t o
abbrev Gm (p : Program) (e : Env) (below : List Frame) (T : State) (m : MethodId) (pc : Nat) (ls : Array Slot) (st : List Value) (P : State → Outcome → Prop) : Prop := Go p e below (T.setTop (mkF m pc ls st)) P
abbrev lv (x : Int64) : Slot := .val (.long x)
theorem own_in {p : Program} {e : Env} {below : List Frame} {T : State} {g g' : JFrame} {P : State → Outcome → Prop} (q : g = g') (h : Go p e below (T.setTop g') P) : ∃ s₂ o, Steps p.tables e below (T.setTop g) s₂ ∧ P s₂ o := q ▸ h
theorem own_go {p : Program} {e : Env} {below : List Frame} {S S' : State} {P : State → Outcome → Prop} (k : ∀ t, Steps p.tables e below S' t → Steps p.tables e below S t) (h : Go p e below S' P) : Go p e below S P := by
  obtain ⟨t, o, h1, h2⟩ := h
  exact ⟨t, o, k t h1, h2⟩
section Rets
variable {p : Program} {l : Launch} {e : Env} {R : Room} {s : State} {m : MethodId} {args : Array Value} {below : List Frame} {meth : Method} {c : Code} {T : State} {locs : List Loc} {cells slots : Nat}
theorem own_retI (X : Stand p l e R s m args below meth c T locs cells slots) (hx : p.tables.exec = Jvm.exec) (hlk : meth.locks = false) {pc : Nat} {Ls : Array Slot} {z : Int32} {t : FieldType} {Q : Option Value → Heap → List Loc → Prop} {C N : Nat} (hret : meth.sig.returnType = some t) (hn : narrow t (.int z) = .int z) (ht : t = .int ∨ t = .boolean ∨ t = .byte ∨ t = .char ∨ t = .short)
    (hd : decode c.code pc = .ok (.ireturn, 1)) {h : Heap} (eh : T.heap = h) (hq : Q (some (.int z)) h locs) (hC : cells ≤ C) (hN : slots ≤ N) : Go p e below (T.setTop (mkF m pc Ls [.int z])) (fun t o => t.status = .running ∧ Ended t below o ∧ ∃ v L, o = .returned v ∧ Q v t.heap L ∧ FrameEnd s o t L C N) := by
  subst eh
  obtain ⟨fs, hr, hrun, hended, hW, hsame⟩ := X.leave (v := some (.int z)) (fun h => by rw [hret] at h; cases h) hlk
  exact ⟨_, _, X.ireturnOut hx hret hn ht hd hr, hrun, hended, _, _, rfl, hq, ⟨_, rfl⟩, hW, hsame.mono hC hN⟩
theorem own_retL (X : Stand p l e R s m args below meth c T locs cells slots) (hx : p.tables.exec = Jvm.exec) (hlk : meth.locks = false) {pc : Nat} {Ls : Array Slot} {z : Int64} {Q : Option Value → Heap → List Loc → Prop} {C N : Nat} (hret : meth.sig.returnType = some .long)
    (hd : decode c.code pc = .ok (.lreturn, 1)) {h : Heap} (eh : T.heap = h) (hq : Q (some (.long z)) h locs) (hC : cells ≤ C) (hN : slots ≤ N) : Go p e below (T.setTop (mkF m pc Ls [.long z])) (fun t o => t.status = .running ∧ Ended t below o ∧ ∃ v L, o = .returned v ∧ Q v t.heap L ∧ FrameEnd s o t L C N) := by
  subst eh
  obtain ⟨fs, hr, hrun, hended, hW, hsame⟩ := X.leave (v := some (.long z)) (fun h => by rw [hret] at h; cases h) hlk
  exact ⟨_, _, X.lreturnOut hx hret hd hr, hrun, hended, _, _, rfl, hq, ⟨_, rfl⟩, hW, hsame.mono hC hN⟩
theorem own_retA (X : Stand p l e R s m args below meth c T locs cells slots) (hx : p.tables.exec = Jvm.exec) (hlk : meth.locks = false) {pc : Nat} {Ls : Array Slot} {w : Value} {t : FieldType} {Q : Option Value → Heap → List Loc → Prop} {C N : Nat} (hw : w.isRef = true) (hret : meth.sig.returnType = some t) (ht : t.isReference = true)
    (hd : decode c.code pc = .ok (.areturn, 1)) {h : Heap} (eh : T.heap = h) (hq : Q (some w) h locs) (hC : cells ≤ C) (hN : slots ≤ N) : Go p e below (T.setTop (mkF m pc Ls [w])) (fun t o => t.status = .running ∧ Ended t below o ∧ ∃ v L, o = .returned v ∧ Q v t.heap L ∧ FrameEnd s o t L C N) := by
  subst eh
  obtain ⟨fs, hr, hrun, hended, hW, hsame⟩ := X.leave (v := some w) (fun h => by rw [hret] at h; cases h) hlk
  exact ⟨_, _, X.areturnOut hx hw hret ht hd hr, hrun, hended, _, _, rfl, hq, ⟨_, rfl⟩, hW, hsame.mono hC hN⟩
theorem own_retV (X : Stand p l e R s m args below meth c T locs cells slots) (hx : p.tables.exec = Jvm.exec) (hlk : meth.locks = false) {pc : Nat} {Ls : Array Slot} {Q : Option Value → Heap → List Loc → Prop} {C N : Nat} (hret : meth.sig.returnType = none)
    (hd : decode c.code pc = .ok (.return_, 1)) {h : Heap} (eh : T.heap = h) (hq : Q none h locs) (hC : cells ≤ C) (hN : slots ≤ N) : Go p e below (T.setTop (mkF m pc Ls [])) (fun t o => t.status = .running ∧ Ended t below o ∧ ∃ v L, o = .returned v ∧ Q v t.heap L ∧ FrameEnd s o t L C N) := by
  subst eh
  obtain ⟨fs, hr, hrun, hended, hW, hsame⟩ := X.leave (v := none) (fun _ => rfl) hlk
  exact ⟨_, _, X.returnOut hx hret hd hr, hrun, hended, _, _, rfl, hq, ⟨_, rfl⟩, hW, hsame.mono hC hN⟩
end Rets

def Af (Z : State) (h : Heap) (a : Addr) (ty : FieldType) (n : Nat) (f : Nat → Value) : Prop := n < 2 ^ 31 ∧ ∃ c : Cell, Arr Z h a c ty ∧ c.slots.size = n ∧ ∀ i, i < n → c.slots[i]? = some (f i) ∧ fits ty (f i) = true
section AfS
variable {Z : State} {h h' : Heap} {a b : Addr} {ty : FieldType} {n : Nat} {f : Nat → Value} {v : Value} {sl : Nat} {ws : List Addr}
theorem Af.lt (A : Af Z h a ty n f) : a < h.size := by obtain ⟨-, c, A, -⟩ := A; exact A.lt
theorem Af.ext (A : Af Z h a ty n f) (E : Ext h h') : Af Z h' a ty n f := by obtain ⟨q, c, A, r⟩ := A; exact ⟨q, c, A.ext E, r⟩
theorem Af.other (A : Af Z h b ty n f) (W : Wr h h' a sl v) (q : b ≠ a) : Af Z h' b ty n f := by obtain ⟨q', c, A, r⟩ := A; exact ⟨q', c, A.other W q, r⟩
theorem Af.keep (A : Af Z h a ty n f) (K : Keep h h' ws) (q : a ∉ ws) : Af Z h' a ty n f := by obtain ⟨q', c, A, r⟩ := A; exact ⟨q', c, ⟨K.2.1 a c A.1 q, A.2⟩, r⟩
theorem Af.congr (A : Af Z h a ty n f) {g : Nat → Value} (q : ∀ i, i < n → g i = f i) : Af Z h a ty n g := by obtain ⟨q', c, A, r1, r2⟩ := A; exact ⟨q', c, A, r1, fun i hi => by rw [q i hi]; exact r2 i hi⟩
theorem Af.set (A : Af Z h a ty n f) (W : Wr h h' a sl v) (hv : fits ty v = true) : Af Z h' a ty n (fun i => if i = sl then v else f i) := by
  obtain ⟨q, c, A, r1, r2⟩ := A
  refine ⟨q, c.setSlot sl v, A.same W, by rw [sz_set]; exact r1, fun i hi => ?_⟩
  by_cases e : i = sl
  · subst e
    show _ = some (if i = i then v else f i) ∧ fits ty (if i = i then v else f i) = true
    rw [if_pos rfl]
    refine ⟨?_, hv⟩
    show (c.slots.setIfInBounds i v)[i]? = _
    rw [Array.getElem?_setIfInBounds_self_of_lt (by omega)]
  · show _ = some (if i = sl then v else f i) ∧ fits ty (if i = sl then v else f i) = true
    rw [if_neg e]
    refine ⟨?_, (r2 i hi).2⟩
    show (c.slots.setIfInBounds sl v)[i]? = _
    rw [Array.getElem?_setIfInBounds_ne (Ne.symm e)]
    exact (r2 i hi).1
theorem Af.new {k : ClassId} {z : Int32} (A : Arr Z h a (newA k ty z) ty) (q : ¬ z < 0) {n : Nat} (hn : z.toNatClampNeg = n) (hd : fits ty (defaultValue ty) = true) : Af Z h a ty n (fun _ => defaultValue ty) := by
  subst hn
  refine ⟨(back32 q).2, _, A, sz_new _ _ _, fun i hi => ⟨?_, hd⟩⟩
  simp [newA, hi]
theorem Af.arv (A : Af Z h a ty n f) (dv : Value) : ∃ k, Arv Z h a k ty n.toInt32 ((List.range n).map f) dv := by
  obtain ⟨q, c, A, r1, r2⟩ := A
  have hz : n.toInt32.toNatClampNeg = n := by
    show n.toInt32.toInt.toNat = n
    rw [len_toInt q]; rfl
  have hg : ∀ i, i < n → ((List.range n).map f).getD i dv = f i := fun i hi => by
    rw [List.getD_eq_getElem?_getD]; simp [hi]
  refine ⟨_, c, A, rfl, by rw [hz]; exact r1, ?_, fun i hi => ?_, fun i hi => ?_⟩
  · rw [Int32.lt_iff_toInt_lt, len_toInt q]; simp
  · rw [hg i (r1 ▸ hi)]; exact (r2 i (r1 ▸ hi)).1
  · rw [hg i (r1 ▸ hi)]; exact (r2 i (r1 ▸ hi)).2
theorem Af.ofArv {k : ClassId} {z : Int32} {vs : List Value} {dv : Value} (F : Arv Z h a k ty z vs dv) (hz : z.toNatClampNeg = n) (hf : ∀ i, i < n → f i = vs.getD i dv) : Af Z h a ty n f := by
  obtain ⟨c, A, -, S, q, H, G⟩ := F
  subst hz
  refine ⟨(back32 q).2, c, A, S, fun i hi => ?_⟩
  rw [hf i hi]
  exact ⟨H i (S ▸ hi), G i (S ▸ hi)⟩
theorem nat32 {n : Nat} (q : n < 2 ^ 31) : n.toInt32.toNatClampNeg = n := by
  show n.toInt32.toInt.toNat = n
  rw [len_toInt q]; rfl
theorem nn32 {n : Nat} (q : n < 2 ^ 31) : ¬ n.toInt32 < 0 := by rw [Int32.lt_iff_toInt_lt, len_toInt q]; simp
end AfS
section AfX
variable {p : Program} {l : Launch} {e : Env} {R : Room} {s : State} {m : MethodId} {args : Array Value} {below : List Frame} {meth : Method} {c : Code} {T : State} {locs : List Loc} {cells slots : Nat} {Z : State} {a0 : Array Value} {h : Heap} {a : Addr} {ty : FieldType} {n : Nat} {f : Nat → Value}
theorem own_len (X : Stand p l e R s m args below meth c T locs cells slots) (hx : p.tables.exec = Jvm.exec) (hZ : Z.Warmed39 s.vm) (eT : T.heap = h) (A : Af Z h a ty n f) {z : Int32} (hz : n.toInt32 = z) {g : JFrame} (hg : g.method = m) {rest : List Value} (hs : g.stack = .ref a :: rest) (hd : decode c.code g.pc = .ok (.arraylength, 1)) {target : State}
    (hr : Steps p.tables e below (T.setTop { g with pc := g.pc + 1, stack := .int z :: rest }) target) : Steps p.tables e below (T.setTop g) target := by
  obtain ⟨q, cl, A, r1, r2⟩ := A
  refine X.arraylength hx (by rw [eT]; exact A.1) (State.isArrayOf_alike hZ.alike A.2.1) hg hs hd _ ?_
  rw [r1, hz]; exact hr
theorem own_inb {cl : Cell} {j : Int32} {k : Nat} (r : cl.slots.size = n) (hj : ¬ j < 0) (hk : j.toNatClampNeg = k) (hkn : k < n) : ¬ (j < 0 ∨ cl.slots.size ≤ j.toNatClampNeg) := by
  rw [r, hk]; rintro (q | q)
  · exact hj q
  · omega
theorem own_ldI (X : Stand p l e R s m args below meth c T locs cells slots) (hx : p.tables.exec = Jvm.exec) (hZ : Z.Warmed39 s.vm) (eT : T.heap = h) (A : Af Z h a .int n f) {j : Int32} {k : Nat} (hj : ¬ j < 0) (hk : j.toNatClampNeg = k) (hkn : k < n) {w : Value} (hv : f k = w) {g : JFrame} (hg : g.method = m) {rest : List Value} (hs : g.stack = .int j :: .ref a :: rest) (hd : decode c.code g.pc = .ok (.iaload, 1)) {target : State}
    (hr : Steps p.tables e below (T.setTop { g with pc := g.pc + 1, stack := w :: rest }) target) : Steps p.tables e below (T.setTop g) target := by
  obtain ⟨q, cl, A, r1, r2⟩ := A
  exact X.iaload hx (by rw [eT]; exact A.1) (State.isArrayOf_alike hZ.alike A.2.1) A.2.2 (own_inb r1 hj hk hkn) (by rw [hk, (r2 k hkn).1, hv]) hg hs hd _ hr
theorem own_ldJ (X : Stand p l e R s m args below meth c T locs cells slots) (hx : p.tables.exec = Jvm.exec) (hZ : Z.Warmed39 s.vm) (eT : T.heap = h) (A : Af Z h a .long n f) {j : Int32} {k : Nat} (hj : ¬ j < 0) (hk : j.toNatClampNeg = k) (hkn : k < n) {w : Value} (hv : f k = w) {g : JFrame} (hg : g.method = m) {rest : List Value} (hs : g.stack = .int j :: .ref a :: rest) (hd : decode c.code g.pc = .ok (.laload, 1)) {target : State}
    (hr : Steps p.tables e below (T.setTop { g with pc := g.pc + 1, stack := w :: rest }) target) : Steps p.tables e below (T.setTop g) target := by
  obtain ⟨q, cl, A, r1, r2⟩ := A
  exact X.laload hx (by rw [eT]; exact A.1) (State.isArrayOf_alike hZ.alike A.2.1) A.2.2 (own_inb r1 hj hk hkn) (by rw [hk, (r2 k hkn).1, hv]) hg hs hd _ hr
theorem own_ldB (X : Stand p l e R s m args below meth c T locs cells slots) (hx : p.tables.exec = Jvm.exec) (hZ : Z.Warmed39 s.vm) (eT : T.heap = h) (A : Af Z h a .byte n f) {j : Int32} {k : Nat} (hj : ¬ j < 0) (hk : j.toNatClampNeg = k) (hkn : k < n) {w : Value} (hv : f k = w) {g : JFrame} (hg : g.method = m) {rest : List Value} (hs : g.stack = .int j :: .ref a :: rest) (hd : decode c.code g.pc = .ok (.baload, 1)) {target : State}
    (hr : Steps p.tables e below (T.setTop { g with pc := g.pc + 1, stack := w :: rest }) target) : Steps p.tables e below (T.setTop g) target := by
  obtain ⟨q, cl, A, r1, r2⟩ := A
  exact X.baloadBytes hx (by rw [eT]; exact A.1) (State.isArrayOf_alike hZ.alike A.2.1) A.2.2 (own_inb r1 hj hk hkn) (by rw [hk, (r2 k hkn).1, hv]) hg hs hd _ hr
theorem own_ldZ (X : Stand p l e R s m args below meth c T locs cells slots) (hx : p.tables.exec = Jvm.exec) (hZ : Z.Warmed39 s.vm) (eT : T.heap = h) (A : Af Z h a .boolean n f) {j : Int32} {k : Nat} (hj : ¬ j < 0) (hk : j.toNatClampNeg = k) (hkn : k < n) {w : Value} (hv : f k = w) {g : JFrame} (hg : g.method = m) {rest : List Value} (hs : g.stack = .int j :: .ref a :: rest) (hd : decode c.code g.pc = .ok (.baload, 1)) {target : State}
    (hr : Steps p.tables e below (T.setTop { g with pc := g.pc + 1, stack := w :: rest }) target) : Steps p.tables e below (T.setTop g) target := by
  obtain ⟨q, cl, A, r1, r2⟩ := A
  exact X.baloadBooleans hx (by rw [eT]; exact A.1) (State.isArrayOf_alike hZ.alike A.2.1) A.2.2 (own_inb r1 hj hk hkn) (by rw [hk, (r2 k hkn).1, hv]) hg hs hd _ hr
theorem own_stI (X : Stand p l e R s m args below meth c T locs cells slots) (hx : p.tables.exec = Jvm.exec) (hZ : Z.Warmed39 s.vm) (eT : T.heap = h) (A : Af Z h a .int n f) {j x : Int32} {k : Nat} (hj : ¬ j < 0) (hk : j.toNatClampNeg = k) (hkn : k < n) {g : JFrame} (hg : g.method = m) {rest : List Value} (hs : g.stack = .int x :: .int j :: .ref a :: rest) (hd : decode c.code g.pc = .ok (.iastore, 1)) :
    ∃ T' h', Stand p l e R s m args below meth c T' (locs ++ [⟨a, k⟩]) cells slots ∧ T'.heap = h' ∧ Wr h h' a k (.int x) ∧ Af Z h' a .int n (fun i => if i = k then .int x else f i) ∧ ∀ target, Steps p.tables e below (T'.setTop { g with pc := g.pc + 1, stack := rest }) target → Steps p.tables e below (T.setTop g) target := by
  obtain ⟨q, cl, B, r1, r2⟩ := id A
  obtain ⟨T', h', X', e', W, st⟩ := stI X hx hZ eT B (own_inb r1 hj hk hkn) hg hs hd
  rw [hk] at X' W
  exact ⟨T', h', X', e', W, A.set W rfl, st⟩
theorem own_stJ (X : Stand p l e R s m args below meth c T locs cells slots) (hx : p.tables.exec = Jvm.exec) (hZ : Z.Warmed39 s.vm) (eT : T.heap = h) (A : Af Z h a .long n f) {j : Int32} {x : Int64} {k : Nat} (hj : ¬ j < 0) (hk : j.toNatClampNeg = k) (hkn : k < n) {g : JFrame} (hg : g.method = m) {rest : List Value} (hs : g.stack = .long x :: .int j :: .ref a :: rest) (hd : decode c.code g.pc = .ok (.lastore, 1)) :
    ∃ T' h', Stand p l e R s m args below meth c T' (locs ++ [⟨a, k⟩]) cells slots ∧ T'.heap = h' ∧ Wr h h' a k (.long x) ∧ Af Z h' a .long n (fun i => if i = k then .long x else f i) ∧ ∀ target, Steps p.tables e below (T'.setTop { g with pc := g.pc + 1, stack := rest }) target → Steps p.tables e below (T.setTop g) target := by
  obtain ⟨q, cl, B, r1, r2⟩ := id A
  obtain ⟨T', h', X', e', W, st⟩ := stJ X hx hZ eT B (own_inb r1 hj hk hkn) hg hs hd
  rw [hk] at X' W
  exact ⟨T', h', X', e', W, A.set W rfl, st⟩
theorem own_stD (X : Stand p l e R s m args below meth c T locs cells slots) (hx : p.tables.exec = Jvm.exec) (hZ : Z.Warmed39 s.vm) (eT : T.heap = h) (A : Af Z h a .double n f) {j : Int32} {x : UInt64} {k : Nat} (hj : ¬ j < 0) (hk : j.toNatClampNeg = k) (hkn : k < n) {g : JFrame} (hg : g.method = m) {rest : List Value} (hs : g.stack = .double x :: .int j :: .ref a :: rest) (hd : decode c.code g.pc = .ok (.dastore, 1)) :
    ∃ T' h', Stand p l e R s m args below meth c T' (locs ++ [⟨a, k⟩]) cells slots ∧ T'.heap = h' ∧ Wr h h' a k (.double x) ∧ Af Z h' a .double n (fun i => if i = k then .double x else f i) ∧ ∀ target, Steps p.tables e below (T'.setTop { g with pc := g.pc + 1, stack := rest }) target → Steps p.tables e below (T.setTop g) target := by
  obtain ⟨q, cl, B, r1, r2⟩ := id A
  obtain ⟨T', h', X', e', W, st⟩ := stD X hx hZ eT B (own_inb r1 hj hk hkn) hg hs hd
  rw [hk] at X' W
  exact ⟨T', h', X', e', W, A.set W rfl, st⟩
theorem own_stZ (X : Stand p l e R s m args below meth c T locs cells slots) (hx : p.tables.exec = Jvm.exec) (hZ : Z.Warmed39 s.vm) (eT : T.heap = h) (A : Af Z h a .boolean n f) {j x y : Int32} {k : Nat} (hj : ¬ j < 0) (hk : j.toNatClampNeg = k) (hkn : k < n) (hy : nar .boolean x = y) {g : JFrame} (hg : g.method = m) {rest : List Value} (hs : g.stack = .int x :: .int j :: .ref a :: rest) (hd : decode c.code g.pc = .ok (.bastore, 1)) :
    ∃ T' h', Stand p l e R s m args below meth c T' (locs ++ [⟨a, k⟩]) cells slots ∧ T'.heap = h' ∧ Wr h h' a k (.int y) ∧ Af Z h' a .boolean n (fun i => if i = k then .int y else f i) ∧ ∀ target, Steps p.tables e below (T'.setTop { g with pc := g.pc + 1, stack := rest }) target → Steps p.tables e below (T.setTop g) target := by
  obtain ⟨q, cl, B, r1, r2⟩ := id A
  obtain ⟨T', h', X', e', W, st⟩ := stZ X hx hZ eT B (own_inb r1 hj hk hkn) hg hs hd
  subst hk hy
  exact ⟨T', h', X', e', W, A.set W (fits_nar_bool x), st⟩
theorem own_stB (X : Stand p l e R s m args below meth c T locs cells slots) (hx : p.tables.exec = Jvm.exec) (hZ : Z.Warmed39 s.vm) (eT : T.heap = h) (A : Af Z h a .byte n f) {j x y : Int32} {k : Nat} (hj : ¬ j < 0) (hk : j.toNatClampNeg = k) (hkn : k < n) (hy : nar .byte x = y) {g : JFrame} (hg : g.method = m) {rest : List Value} (hs : g.stack = .int x :: .int j :: .ref a :: rest) (hd : decode c.code g.pc = .ok (.bastore, 1)) :
    ∃ T' h', Stand p l e R s m args below meth c T' (locs ++ [⟨a, k⟩]) cells slots ∧ T'.heap = h' ∧ Wr h h' a k (.int y) ∧ Af Z h' a .byte n (fun i => if i = k then .int y else f i) ∧ ∀ target, Steps p.tables e below (T'.setTop { g with pc := g.pc + 1, stack := rest }) target → Steps p.tables e below (T.setTop g) target := by
  obtain ⟨q, cl, B, r1, r2⟩ := id A
  obtain ⟨T', h', X', e', W, st⟩ := stB X hx hZ eT B (own_inb r1 hj hk hkn) hg hs hd
  subst hk hy
  exact ⟨T', h', X', e', W, A.set W (fits_nar_byte x), st⟩
end AfX

section CpX
variable {p : Program} {l : Launch} {e : Env} {R : Room} {s : State} {m : MethodId} {args : Array Value} {below : List Frame} {meth : Method} {c : Code} {T : State} {locs : List Loc} {cells slots : Nat} {Z : State} {a0 : Array Value} {h : Heap} {a b : Addr} {ty : FieldType} {n n' : Nat} {f f' : Nat → Value}
theorem own_cp (X : Stand p l e R s m args below meth c T locs cells slots) (hx : p.tables.exec = Jvm.exec) (hZ : Z.Warmed39 s.vm) {own : String} {index : Nat} (hown : s.vm.findClass own = some m.cls)
    (w1 : (Jvm.Cond.methodLink own index Jvm.Stand.acN).before a0 Z = true) (w2 : (Jvm.Cond.native Jvm.Stand.acN).before a0 Z = true) (w3 : (Jvm.Cond.static Jvm.Stand.acN).before a0 Z = true) (w4 : (Jvm.Cond.initialized "java/lang/System").before a0 Z = true) (eT : T.heap = h)
    {sp dp nn : Int32} {ks kd kn : Nat} (A : Af Z h a ty n f) (B : Af Z h b ty n' f') (hty : refKind ty = false)
    (h1 : ¬ sp < 0) (h2 : ¬ dp < 0) (h3 : ¬ nn < 0) (e1 : sp.toNatClampNeg = ks) (e2 : dp.toNatClampNeg = kd) (e3 : nn.toNatClampNeg = kn) (h4 : ks + kn ≤ n) (h5 : kd + kn ≤ n') {n0 : Nat} (N : Fr n0 locs) (ge : n0 ≤ b)
    {g : JFrame} (hg : g.method = m) (hsize : g.locals.size = c.maxLocals) {rest : List Value} (hs : g.stack = .int nn :: .int dp :: .ref b :: .int sp :: .ref a :: rest) (hd : decode c.code g.pc = .ok (.invokestatic index, 3))
    (hf : 1 ≤ R.frames) {W : Nat} (hW : 2 * g.monitorRoom + (rest.map fun v => v.category).sum ≤ W) (hlo : W + (nativeFrameWords "java/lang/System" "arraycopy" 5 + 11) ≤ R.locals) :
    ∃ T' h' L, Stand p l e R s m args below meth c T' L cells slots ∧ T'.heap = h' ∧ Fr n0 L ∧ Keep h h' [b] ∧ Af Z h' b ty n' (fun i => if kd ≤ i ∧ i < kd + kn then f (ks + (i - kd)) else f' i) ∧
      ∀ target, Steps p.tables e below (T'.setTop { g with pc := g.pc + 3, stack := rest }) target → Steps p.tables e below (T.setTop g) target := by
  obtain ⟨k1, A1⟩ := A.arv .null
  obtain ⟨k2, B1⟩ := B.arv .null
  subst e1 e2 e3
  have z1 := nat32 A.1
  have z2 := nat32 B.1
  obtain ⟨T', h', L, X', e', N', K, V, st⟩ := cpA X hx hZ hown w1 w2 w3 w4 eT A1 B1 (Or.inl ⟨rfl, hty⟩) h1 h2 h3 (by rw [z1]; exact h4) (by rw [z2]; exact h5) rfl (by simpa using h5) N ge hg hsize hs hd hf hW hlo
  refine ⟨T', h', L, X', e', N', K, Af.ofArv V z2 fun i hi => ?_, st⟩
  rw [List.getD_eq_getElem?_getD]
  have lt : (((List.range n').map f').take dp.toNatClampNeg).length = dp.toNatClampNeg := by simp; omega
  by_cases c1 : i < dp.toNatClampNeg
  · rw [if_neg (by omega), List.append_assoc, List.getElem?_append_left (by omega), List.getElem?_take_of_lt c1]; simp [hi]
  · by_cases c2 : i < dp.toNatClampNeg + nn.toNatClampNeg
    · rw [if_pos ⟨by omega, c2⟩, List.getElem?_append_left (by rw [List.length_append, lt]; simp; omega), List.getElem?_append_right (by omega), lt]
      have : i - dp.toNatClampNeg < nn.toNatClampNeg := by omega
      have : sp.toNatClampNeg + (i - dp.toNatClampNeg) < n := by omega
      rw [List.getElem?_map, List.getElem?_range (by omega)]
      simp [*]
    · rw [if_neg (by omega), List.getElem?_append_right (by rw [List.length_append, lt]; simp; omega), List.length_append, lt, List.getElem?_drop]
      simp [show dp.toNatClampNeg + nn.toNatClampNeg + (i - (dp.toNatClampNeg + nn.toNatClampNeg)) = i by omega, hi]
end CpX

theorem own_self {Z s : State} {a0 args : Array Value} {y : MethodName} {k : Nat} (hZ : Z.Warmed39 s.vm) (wi : (Jvm.Cond.instantiable y.cls k).before a0 Z = true) (wp : (Jvm.Cond.privateMethod y).before a0 Z = true) (wm : (Jvm.Cond.instanceMethod y).before a0 Z = true) (hy : y.cls ≠ "java/lang/invoke/MethodHandle" ∧ y.cls ≠ "java/lang/invoke/VarHandle") : (Jvm.Cond.selects y.cls y y).before args s = true := by
  obtain ⟨c, kk, h1, h2, -, h4, -, -⟩ := Cond.instantiable_spec (mvT (args := args) hZ wi)
  exact selects_self_of_private h1 h2 (by simp at h4; exact h4.1) (Cond.privateMethod_at (mvP hZ wp (args := args))) (mvT hZ wm) hy
theorem d1_0 : decode prog_105_method_1_code 0 = .ok (.aload_n 0, 1) := by decide +kernel
theorem d1_1 : decode prog_105_method_1_code 1 = .ok (.invokespecial 3, 3) := by decide +kernel
theorem d1_4 : decode prog_105_method_1_code 4 = .ok (.aload_n 0, 1) := by decide +kernel
theorem d1_5 : decode prog_105_method_1_code 5 = .ok (.bipush 8, 2) := by decide +kernel
theorem d1_7 : decode prog_105_method_1_code 7 = .ok (.newarray .int, 2) := by decide +kernel
theorem d1_9 : decode prog_105_method_1_code 9 = .ok (.putfield 9, 3) := by decide +kernel
theorem d1_12 : decode prog_105_method_1_code 12 = .ok (.aload_n 0, 1) := by decide +kernel
theorem d1_13 : decode prog_105_method_1_code 13 = .ok (.iconst 1, 1) := by decide +kernel
theorem d1_14 : decode prog_105_method_1_code 14 = .ok (.putfield 15, 3) := by decide +kernel
theorem d1_17 : decode prog_105_method_1_code 17 = .ok (.return_, 1) := by decide +kernel
theorem own_pn_rm1 : plainName "com/example/data_in_bounds/datainbounds/metapath/RegexProgram$Fragment" = true := by first | (simp [plainName, overriddenIn]; done) | decide +kernel
theorem own_ef_rm1 (m : MethodId) (r0 : Addr) : entryFrame m #[(.ref r0)] 1 = mkF m 0 #[.val (.ref r0)] [] := by first | (simp [entryFrame, mkF, argsToLocals, Value.category]; done) | rfl
def Q1 (Z : State) (r0 : Addr) (h0 : Heap) (n0 : Nat) (v : Option Value) (h : Heap) (L : List Loc) : Prop := ∃ c : Addr, v = none ∧ Fr n0 L ∧ Keep h0 h [r0] ∧ Exa Z h r0 "com/example/data_in_bounds/datainbounds/metapath/RegexProgram$Fragment" ∧ h0.size ≤ c ∧ Fld Z h r0 "com/example/data_in_bounds/datainbounds/metapath/RegexProgram$Fragment" "code" "[I" (.ref c) ∧ Af Z h c .int 8 (fun _ => defaultValue .int) ∧ Fld Z h r0 "com/example/data_in_bounds/datainbounds/metapath/RegexProgram$Fragment" "length" "I" (.int (0 : Int32)) ∧ Fld Z h r0 "com/example/data_in_bounds/datainbounds/metapath/RegexProgram$Fragment" "nullable" "Z" (.int (1 : Int32)) ∧ Fld Z h r0 "com/example/data_in_bounds/datainbounds/metapath/RegexProgram$Fragment" "height" "I" (.int (0 : Int32))
set_option maxRecDepth 65536 in
set_option maxHeartbeats 40000000 in
theorem rm1 (l : Launch) (Z : State) (a0 : Array Value) (hw : ∀ d ∈ tables_1, d.before a0 Z = true) (ws : List Jvm.Cond) (r0 : Addr) (h0 : Heap) (n0 : Nat) (Z0 : n0 ≤ h0.size) (E_r0 : Exa Z h0 r0 "com/example/data_in_bounds/datainbounds/metapath/RegexProgram$Fragment") (F_code : Fld Z h0 r0 "com/example/data_in_bounds/datainbounds/metapath/RegexProgram$Fragment" "code" "[I" .null) (F_length : Fld Z h0 r0 "com/example/data_in_bounds/datainbounds/metapath/RegexProgram$Fragment" "length" "I" (.int (0 : Int32))) (F_nullable : Fld Z h0 r0 "com/example/data_in_bounds/datainbounds/metapath/RegexProgram$Fragment" "nullable" "Z" (.int (0 : Int32))) (F_height : Fld Z h0 r0 "com/example/data_in_bounds/datainbounds/metapath/RegexProgram$Fragment" "height" "I" (.int (0 : Int32))) (g_r0 : n0 ≤ r0) :
    MetFree l (⟨"com/example/data_in_bounds/datainbounds/metapath/RegexProgram$Fragment", "<init>", "()V"⟩ : MethodName) (head1 (Jvm.Cond.code (⟨"com/example/data_in_bounds/datainbounds/metapath/RegexProgram$Fragment", "<init>", "()V"⟩ : MethodName) prog_105_method_1_code 1 none :: ws) ({ frames := 1, cells := 1, slots := 8, locals := 12 } : Room)) (fun a U => a = #[(.ref r0)] ∧ Z.Warmed39 U.vm ∧ U.heap = h0) (fun _ _ _ _ _ => True) (fun _ U o U' => ∃ v L, o = .returned v ∧ Q1 Z r0 h0 n0 v U'.heap L ∧ FrameEnd U o U' L ({ frames := 1, cells := 1, slots := 8, locals := 12 } : Room).cells ({ frames := 1, cells := 1, slots := 8, locals := 12 } : Room).slots) := by
  refine MetFree.of_bodySF (plainFor_of_name own_pn_rm1) hisR ?_
  intro p e s m args below meth cO s₁ Bd hml0 hP hK
  obtain ⟨rfl, hZ, hh⟩ := hP
  have hx := Bd.exec
  have hby := Bd.bytes
  have hml : cO.maxLocals = 1 := hml0
  have hown : s.vm.findClass "com/example/data_in_bounds/datainbounds/metapath/RegexProgram$Fragment" = some m.cls := findClass_of_methodNamed Bd.named
  have hnm := (name_of_methodNamed Bd.named Bd.method).1
  have hlk : meth.locks = false := BodyLoose.notSynchronized Bd
  have X0 : Stand p l e ({ frames := 1, cells := 1, slots := 8, locals := 12 } : Room) s m #[(.ref r0)] below meth cO s₁ [] 0 0 := Stand.of_body Bd
  have e0 : s₁.heap = h0 := by rw [← hh, Bd.state]; rfl
  have N0 := Fr.nil n0
  refine own_in (own_ef_rm1 m r0) ?_
  show Gm p e below s₁ m 0 #[rv r0] [] _
  refine own_go (fun t₀ k₀ => XS.aloadN X0.here hx rfl (Jvm.hb hby d1_0) rfl rfl k₀) ?_
  show Gm p e below s₁ m 1 #[rv r0] [(.ref r0)] _
  obtain ⟨T1, X1, e1, st1⟩ := initO X0 hx hZ hown (hw _ (List.mem_of_getElem? (i := 6) rfl)) (hw _ (List.mem_of_getElem? (i := 7) rfl)) (hw _ (List.mem_of_getElem? (i := 8) rfl)) e0 (g := (mkF m 1 #[rv r0] [(.ref r0)])) rfl (by rw [hml]; rfl) rfl (Jvm.hb hby d1_1) (by decide) (W := 0) (by show 2 * 0 + _ ≤ _; exact Nat.le_of_eq rfl) (by decide)
  refine own_go st1 ?_
  show Gm p e below T1 m 4 #[rv r0] [] _
  refine own_go (fun t₀ k₀ => XS.aloadN X1.here hx rfl (Jvm.hb hby d1_4) rfl rfl k₀) ?_
  show Gm p e below T1 m 5 #[rv r0] [(.ref r0)] _
  refine own_go (fun t₀ k₀ => XS.bipush X1.here hx rfl (Jvm.hb hby d1_5) k₀) ?_
  show Gm p e below T1 m 7 #[rv r0] [(.int (8 : Int32)), (.ref r0)] _
  obtain ⟨T2, h2, k2, X2, e2, E2, A2, st2⟩ := newP X1 hx hZ (hw _ (List.mem_of_getElem? (i := 9) rfl)) e1 (g := (mkF m 7 #[rv r0] [(.int (8 : Int32)), (.ref r0)])) rfl (Jvm.hb hby d1_7) rfl (by decide) (cap := 8) (by decide) (by decide) (by decide) (by decide)
  obtain ⟨b2, g2⟩ : ∃ z, z = h0.size := ⟨_, rfl⟩
  rw [← g2] at A2 st2
  have g_b2 : n0 ≤ b2 := Nat.le_trans Z0 (Nat.le_of_eq g2.symm)
  have ne_r0_b2 : r0 ≠ b2 := Nat.ne_of_lt (Nat.lt_of_lt_of_le E_r0.lt (Nat.le_of_eq g2.symm))
  have sz_b2 : h0.size ≤ b2 := Nat.le_trans (Keep.refl h0 [r0]).1 (Nat.le_of_eq g2.symm)
  have K2 : Keep h0 h2 [r0] := Keep.ext (Keep.refl h0 [r0]) E2
  have Z2 : n0 ≤ h2.size := Nat.le_trans Z0 E2.1
  have V2 : Af Z h2 b2 .int 8 (fun _ => defaultValue .int) := Af.new A2 (by decide) rfl rfl
  refine own_go st2 ?_
  show Gm p e below T2 m 9 #[rv r0] [(.ref b2), (.ref r0)] _
  have f3 := (E_r0.ext E2)
  have f4 := (F_code.ext E2)
  obtain ⟨T5, h5, X5, e5, W5, st5⟩ := putF X2 hx hZ hown (host := "") (Or.inl (hw _ (List.mem_of_getElem? (i := 10) rfl))) Via.refl e2 f4 f3 (Or.inl (hw _ (List.mem_of_getElem? (i := 11) rfl))) (hw _ (List.mem_of_getElem? (i := 1) rfl)) (ty := (.array .int)) (by decide) rfl rfl (g := (mkF m 9 #[rv r0] [(.ref b2), (.ref r0)])) rfl rfl (Jvm.hb hby d1_9)
  have Fw5 := Fld.same W5 f4
  have N5 := Fr.snoc X5 N0 g_r0
  have Z5 : n0 ≤ h5.size := W5.size ▸ Z2
  have K5 : Keep h0 h5 [r0] := Keep.wr K2 W5 (Or.inl (List.mem_of_getElem? (i := 0) rfl))
  refine own_go st5 ?_
  show Gm p e below T5 m 12 #[rv r0] [] _
  refine own_go (fun t₀ k₀ => XS.aloadN X5.here hx rfl (Jvm.hb hby d1_12) rfl rfl k₀) ?_
  show Gm p e below T5 m 13 #[rv r0] [(.ref r0)] _
  refine own_go (fun t₀ k₀ => XS.iconst X5.here hx rfl (Jvm.hb hby d1_13) k₀) ?_
  show Gm p e below T5 m 14 #[rv r0] [(.int (1 : Int32)), (.ref r0)] _
  have f6 := (f3.wr W5)
  have f7 := (Fld.other W5 (F_nullable.ext E2) (Or.inr (slot_ne (Or.inl (hw _ (List.mem_of_getElem? (i := 13) rfl))) (Or.inl (hw _ (List.mem_of_getElem? (i := 11) rfl))) (by decide) (t := .boolean) (t' := (.array .int)) (by decide) (by decide))))
  obtain ⟨T8, h8, X8, e8, W8, st8⟩ := putFN X5 hx hZ hown (hw _ (List.mem_of_getElem? (i := 12) rfl)) Via.refl e5 f7 f6 (Or.inl (hw _ (List.mem_of_getElem? (i := 13) rfl))) (hw _ (List.mem_of_getElem? (i := 1) rfl)) (ty := .boolean) (v' := (.int (1 : Int32))) (by decide) rfl rfl (g := (mkF m 14 #[rv r0] [(.int (1 : Int32)), (.ref r0)])) rfl rfl (Jvm.hb hby d1_14)
  have Fw8 := Fld.same W8 f7
  have N8 := Fr.snoc X8 N5 g_r0
  have Z8 : n0 ≤ h8.size := W8.size ▸ Z5
  have K8 : Keep h0 h8 [r0] := Keep.wr K5 W8 (Or.inl (List.mem_of_getElem? (i := 0) rfl))
  refine own_go st8 ?_
  show Gm p e below T8 m 17 #[rv r0] [] _
  have f9 := (f6.wr W8)
  have f10 := (Fld.other W8 Fw5 (Or.inr (slot_ne (Or.inl (hw _ (List.mem_of_getElem? (i := 11) rfl))) (Or.inl (hw _ (List.mem_of_getElem? (i := 13) rfl))) (by decide) (t := (.array .int)) (t' := .boolean) (by decide) (by decide))))
  have f11 := ((V2.other W5 (Ne.symm ne_r0_b2)).other W8 (Ne.symm ne_r0_b2))
  have f12 := (Fld.other W8 (Fld.other W5 (F_length.ext E2) (Or.inr (slot_ne (Or.inl (hw _ (List.mem_of_getElem? (i := 28) rfl))) (Or.inl (hw _ (List.mem_of_getElem? (i := 11) rfl))) (by decide) (t := .int) (t' := (.array .int)) (by decide) (by decide)))) (Or.inr (slot_ne (Or.inl (hw _ (List.mem_of_getElem? (i := 28) rfl))) (Or.inl (hw _ (List.mem_of_getElem? (i := 13) rfl))) (by decide) (t := .int) (t' := .boolean) (by decide) (by decide))))
  have f13 := (Fld.other W8 (Fld.other W5 (F_height.ext E2) (Or.inr (slot_ne (Or.inl (hw _ (List.mem_of_getElem? (i := 56) rfl))) (Or.inl (hw _ (List.mem_of_getElem? (i := 11) rfl))) (by decide) (t := .int) (t' := (.array .int)) (by decide) (by decide)))) (Or.inr (slot_ne (Or.inl (hw _ (List.mem_of_getElem? (i := 56) rfl))) (Or.inl (hw _ (List.mem_of_getElem? (i := 13) rfl))) (by decide) (t := .int) (t' := .boolean) (by decide) (by decide))))
  exact own_retV X8 hx hlk Bd.returns (Jvm.hb hby d1_17) e8 ⟨b2, rfl, N8, K8, f9, sz_b2, f10, f11, f12, Fw8, f13⟩ (by decide) (by decide)
theorem d3_0 : decode jdk_29_method_70_code 0 = .ok (.lload_n 0, 1) := by decide +kernel
theorem d3_1 : decode jdk_29_method_70_code 1 = .ok (.lload_n 2, 1) := by decide +kernel
theorem d3_2 : decode jdk_29_method_70_code 2 = .ok (.lcmp, 1) := by decide +kernel
theorem d3_3 : decode jdk_29_method_70_code 3 = .ok (.ifCond .gt 7, 3) := by decide +kernel
theorem d3_6 : decode jdk_29_method_70_code 6 = .ok (.lload_n 0, 1) := by decide +kernel
theorem d3_7 : decode jdk_29_method_70_code 7 = .ok (.goto 4, 3) := by decide +kernel
theorem d3_10 : decode jdk_29_method_70_code 10 = .ok (.lload_n 2, 1) := by decide +kernel
theorem d3_11 : decode jdk_29_method_70_code 11 = .ok (.lreturn, 1) := by decide +kernel
theorem own_ef_rm3 (m : MethodId) (q0 : Int64) (q1 : Int64) : entryFrame m #[(.long q0), (.long q1)] 4 = mkF m 0 #[.val (.long q0), .second, .val (.long q1), .second] [] := by first | (simp [entryFrame, mkF, argsToLocals, Value.category]; done) | rfl
def fMin (q0 : Int64) (q1 : Int64) : Int64 := if q1 < q0 then q1 else (q0)
def Q3 (Z : State) (q0 : Int64) (q1 : Int64) (h0 : Heap) (n0 : Nat) (v : Option Value) (h : Heap) (L : List Loc) : Prop := v = some (.long (fMin q0 q1)) ∧ Fr n0 L ∧ h = h0
set_option maxRecDepth 65536 in
set_option maxHeartbeats 40000000 in
theorem rm3 (l : Launch) (Z : State) (a0 : Array Value) (hw : ∀ d ∈ tables_1, d.before a0 Z = true) (ws : List Jvm.Cond) (q0 : Int64) (q1 : Int64) (h0 : Heap) (n0 : Nat) (Z0 : n0 ≤ h0.size) :
    MetFree l (⟨"java/lang/Math", "min", "(JJ)J"⟩ : MethodName) (head1 (Jvm.Cond.code (⟨"java/lang/Math", "min", "(JJ)J"⟩ : MethodName) jdk_29_method_70_code 4 (some .long) :: ws) ({ frames := 0, cells := 0, slots := 0, locals := 0 } : Room)) (fun a U => a = #[(.long q0), (.long q1)] ∧ Z.Warmed39 U.vm ∧ U.heap = h0) (fun _ _ _ _ _ => True) (fun _ U o U' => ∃ v L, o = .returned v ∧ Q3 Z q0 q1 h0 n0 v U'.heap L ∧ FrameEnd U o U' L ({ frames := 0, cells := 0, slots := 0, locals := 0 } : Room).cells ({ frames := 0, cells := 0, slots := 0, locals := 0 } : Room).slots) := by
  refine MetFree.of_bodySF (Jvm.Free.JP.mathPlain rfl (by decide +kernel)) hisR ?_
  intro p e s m args below meth cO s₁ Bd hml0 hP hK
  obtain ⟨rfl, hZ, hh⟩ := hP
  have hx := Bd.exec
  have hby := Bd.bytes
  have hml : cO.maxLocals = 4 := hml0
  have hown : s.vm.findClass "java/lang/Math" = some m.cls := findClass_of_methodNamed Bd.named
  have hnm := (name_of_methodNamed Bd.named Bd.method).1
  have hlk : meth.locks = false := BodyLoose.notSynchronized Bd
  have X0 : Stand p l e ({ frames := 0, cells := 0, slots := 0, locals := 0 } : Room) s m #[(.long q0), (.long q1)] below meth cO s₁ [] 0 0 := Stand.of_body Bd
  have e0 : s₁.heap = h0 := by rw [← hh, Bd.state]; rfl
  have N0 := Fr.nil n0
  refine own_in (own_ef_rm3 m q0 q1) ?_
  show Gm p e below s₁ m 0 #[lv q0, .second, lv q1, .second] [] _
  refine own_go (fun t₀ k₀ => XS.lloadN X0.here hx rfl (Jvm.hb hby d3_0) rfl k₀) ?_
  show Gm p e below s₁ m 1 #[lv q0, .second, lv q1, .second] [(.long q0)] _
  refine own_go (fun t₀ k₀ => XS.lloadN X0.here hx rfl (Jvm.hb hby d3_1) rfl k₀) ?_
  show Gm p e below s₁ m 2 #[lv q0, .second, lv q1, .second] [(.long q1), (.long q0)] _
  refine own_go (fun t₀ k₀ => XT.lcmp X0.here hx rfl (Jvm.hb hby d3_2) rfl k₀) ?_
  show Gm p e below s₁ m 3 #[lv q0, .second, lv q1, .second] [(.int (XT.cmpL q0 q1))] _
  by_cases c1 : q1 < q0
  · have hfork := trivial
    refine own_go (fun t₀ k₀ => XS.ifYes X0.here hx rfl (pc0 := 3) (pc' := 10) rfl (Jvm.hb hby d3_3) rfl (XT.ll_gt_t c1) (by decide) (by decide) k₀) ?_
    show Gm p e below s₁ m 10 #[lv q0, .second, lv q1, .second] [] _
    refine own_go (fun t₀ k₀ => XS.lloadN X0.here hx rfl (Jvm.hb hby d3_10) rfl k₀) ?_
    show Gm p e below s₁ m 11 #[lv q0, .second, lv q1, .second] [(.long q1)] _
    exact own_retL X0 hx hlk Bd.returns (Jvm.hb hby d3_11) e0 ⟨(by unfold fMin; rw [if_pos c1]), N0, rfl⟩ (by decide) (by decide)
  · have hfork := trivial
    refine own_go (fun t₀ k₀ => XS.ifNo X0.here hx rfl (Jvm.hb hby d3_3) rfl (XT.ll_gt_f c1) k₀) ?_
    show Gm p e below s₁ m 6 #[lv q0, .second, lv q1, .second] [] _
    refine own_go (fun t₀ k₀ => XS.lloadN X0.here hx rfl (Jvm.hb hby d3_6) rfl k₀) ?_
    show Gm p e below s₁ m 7 #[lv q0, .second, lv q1, .second] [(.long q0)] _
    refine own_go (fun t₀ k₀ => XS.goto X0.here hx rfl (pc0 := 7) (pc' := 11) rfl (Jvm.hb hby d3_7) (by decide) (by decide) k₀) ?_
    show Gm p e below s₁ m 11 #[lv q0, .second, lv q1, .second] [(.long q0)] _
    exact own_retL X0 hx hlk Bd.returns (Jvm.hb hby d3_11) e0 ⟨(by unfold fMin; rw [if_neg c1]), N0, rfl⟩ (by decide) (by decide)
theorem d5_0 : decode jdk_29_method_66_code 0 = .ok (.lload_n 0, 1) := by decide +kernel
theorem d5_1 : decode jdk_29_method_66_code 1 = .ok (.lload_n 2, 1) := by decide +kernel
theorem d5_2 : decode jdk_29_method_66_code 2 = .ok (.lcmp, 1) := by decide +kernel
theorem d5_3 : decode jdk_29_method_66_code 3 = .ok (.ifCond .lt 7, 3) := by decide +kernel
theorem d5_6 : decode jdk_29_method_66_code 6 = .ok (.lload_n 0, 1) := by decide +kernel
theorem d5_7 : decode jdk_29_method_66_code 7 = .ok (.goto 4, 3) := by decide +kernel
theorem d5_10 : decode jdk_29_method_66_code 10 = .ok (.lload_n 2, 1) := by decide +kernel
theorem d5_11 : decode jdk_29_method_66_code 11 = .ok (.lreturn, 1) := by decide +kernel
theorem own_ef_rm5 (m : MethodId) (q0 : Int64) (q1 : Int64) : entryFrame m #[(.long q0), (.long q1)] 4 = mkF m 0 #[.val (.long q0), .second, .val (.long q1), .second] [] := by first | (simp [entryFrame, mkF, argsToLocals, Value.category]; done) | rfl
def fMax (q0 : Int64) (q1 : Int64) : Int64 := if q0 < q1 then q1 else (q0)
def Q5 (Z : State) (q0 : Int64) (q1 : Int64) (h0 : Heap) (n0 : Nat) (v : Option Value) (h : Heap) (L : List Loc) : Prop := v = some (.long (fMax q0 q1)) ∧ Fr n0 L ∧ h = h0
set_option maxRecDepth 65536 in
set_option maxHeartbeats 40000000 in
theorem rm5 (l : Launch) (Z : State) (a0 : Array Value) (hw : ∀ d ∈ tables_1, d.before a0 Z = true) (ws : List Jvm.Cond) (q0 : Int64) (q1 : Int64) (h0 : Heap) (n0 : Nat) (Z0 : n0 ≤ h0.size) :
    MetFree l (⟨"java/lang/Math", "max", "(JJ)J"⟩ : MethodName) (head1 (Jvm.Cond.code (⟨"java/lang/Math", "max", "(JJ)J"⟩ : MethodName) jdk_29_method_66_code 4 (some .long) :: ws) ({ frames := 0, cells := 0, slots := 0, locals := 0 } : Room)) (fun a U => a = #[(.long q0), (.long q1)] ∧ Z.Warmed39 U.vm ∧ U.heap = h0) (fun _ _ _ _ _ => True) (fun _ U o U' => ∃ v L, o = .returned v ∧ Q5 Z q0 q1 h0 n0 v U'.heap L ∧ FrameEnd U o U' L ({ frames := 0, cells := 0, slots := 0, locals := 0 } : Room).cells ({ frames := 0, cells := 0, slots := 0, locals := 0 } : Room).slots) := by
  refine MetFree.of_bodySF (Jvm.Free.JP.mathPlain rfl (by decide +kernel)) hisR ?_
  intro p e s m args below meth cO s₁ Bd hml0 hP hK
  obtain ⟨rfl, hZ, hh⟩ := hP
  have hx := Bd.exec
  have hby := Bd.bytes
  have hml : cO.maxLocals = 4 := hml0
  have hown : s.vm.findClass "java/lang/Math" = some m.cls := findClass_of_methodNamed Bd.named
  have hnm := (name_of_methodNamed Bd.named Bd.method).1
  have hlk : meth.locks = false := BodyLoose.notSynchronized Bd
  have X0 : Stand p l e ({ frames := 0, cells := 0, slots := 0, locals := 0 } : Room) s m #[(.long q0), (.long q1)] below meth cO s₁ [] 0 0 := Stand.of_body Bd
  have e0 : s₁.heap = h0 := by rw [← hh, Bd.state]; rfl
  have N0 := Fr.nil n0
  refine own_in (own_ef_rm5 m q0 q1) ?_
  show Gm p e below s₁ m 0 #[lv q0, .second, lv q1, .second] [] _
  refine own_go (fun t₀ k₀ => XS.lloadN X0.here hx rfl (Jvm.hb hby d5_0) rfl k₀) ?_
  show Gm p e below s₁ m 1 #[lv q0, .second, lv q1, .second] [(.long q0)] _
  refine own_go (fun t₀ k₀ => XS.lloadN X0.here hx rfl (Jvm.hb hby d5_1) rfl k₀) ?_
  show Gm p e below s₁ m 2 #[lv q0, .second, lv q1, .second] [(.long q1), (.long q0)] _
  refine own_go (fun t₀ k₀ => XT.lcmp X0.here hx rfl (Jvm.hb hby d5_2) rfl k₀) ?_
  show Gm p e below s₁ m 3 #[lv q0, .second, lv q1, .second] [(.int (XT.cmpL q0 q1))] _
  by_cases c1 : q0 < q1
  · have hfork := trivial
    refine own_go (fun t₀ k₀ => XS.ifYes X0.here hx rfl (pc0 := 3) (pc' := 10) rfl (Jvm.hb hby d5_3) rfl (XT.ll_lt_t c1) (by decide) (by decide) k₀) ?_
    show Gm p e below s₁ m 10 #[lv q0, .second, lv q1, .second] [] _
    refine own_go (fun t₀ k₀ => XS.lloadN X0.here hx rfl (Jvm.hb hby d5_10) rfl k₀) ?_
    show Gm p e below s₁ m 11 #[lv q0, .second, lv q1, .second] [(.long q1)] _
    exact own_retL X0 hx hlk Bd.returns (Jvm.hb hby d5_11) e0 ⟨(by unfold fMax; rw [if_pos c1]), N0, rfl⟩ (by decide) (by decide)
  · have hfork := trivial
    refine own_go (fun t₀ k₀ => XS.ifNo X0.here hx rfl (Jvm.hb hby d5_3) rfl (XT.ll_lt_f c1) k₀) ?_
    show Gm p e below s₁ m 6 #[lv q0, .second, lv q1, .second] [] _
    refine own_go (fun t₀ k₀ => XS.lloadN X0.here hx rfl (Jvm.hb hby d5_6) rfl k₀) ?_
    show Gm p e below s₁ m 7 #[lv q0, .second, lv q1, .second] [(.long q0)] _
    refine own_go (fun t₀ k₀ => XS.goto X0.here hx rfl (pc0 := 7) (pc' := 11) rfl (Jvm.hb hby d5_7) (by decide) (by decide) k₀) ?_
    show Gm p e below s₁ m 11 #[lv q0, .second, lv q1, .second] [(.long q0)] _
    exact own_retL X0 hx hlk Bd.returns (Jvm.hb hby d5_11) e0 ⟨(by unfold fMax; rw [if_neg c1]), N0, rfl⟩ (by decide) (by decide)
theorem d10_0 : decode jdk_29_method_65_code 0 = .ok (.iload_n 0, 1) := by decide +kernel
theorem d10_1 : decode jdk_29_method_65_code 1 = .ok (.iload_n 1, 1) := by decide +kernel
theorem d10_2 : decode jdk_29_method_65_code 2 = .ok (.if_icmp .lt 7, 3) := by decide +kernel
theorem d10_5 : decode jdk_29_method_65_code 5 = .ok (.iload_n 0, 1) := by decide +kernel
theorem d10_6 : decode jdk_29_method_65_code 6 = .ok (.goto 4, 3) := by decide +kernel
theorem d10_9 : decode jdk_29_method_65_code 9 = .ok (.iload_n 1, 1) := by decide +kernel
theorem d10_10 : decode jdk_29_method_65_code 10 = .ok (.ireturn, 1) := by decide +kernel
theorem own_ef_rm10 (m : MethodId) (p0 : Int32) (p1 : Int32) : entryFrame m #[(.int p0), (.int p1)] 2 = mkF m 0 #[.val (.int p0), .val (.int p1)] [] := by first | (simp [entryFrame, mkF, argsToLocals, Value.category]; done) | rfl
def fMx (p0 : Int32) (p1 : Int32) : Int32 := if p0 < p1 then p1 else (p0)
def Q10 (Z : State) (p0 : Int32) (p1 : Int32) (h0 : Heap) (n0 : Nat) (v : Option Value) (h : Heap) (L : List Loc) : Prop := v = some (.int (fMx p0 p1)) ∧ Fr n0 L ∧ h = h0
set_option maxRecDepth 65536 in
set_option maxHeartbeats 40000000 in
theorem rm10 (l : Launch) (Z : State) (a0 : Array Value) (hw : ∀ d ∈ tables_1, d.before a0 Z = true) (ws : List Jvm.Cond) (p0 : Int32) (p1 : Int32) (h0 : Heap) (n0 : Nat) (Z0 : n0 ≤ h0.size) :
    MetFree l (⟨"java/lang/Math", "max", "(II)I"⟩ : MethodName) (head1 (Jvm.Cond.code (⟨"java/lang/Math", "max", "(II)I"⟩ : MethodName) jdk_29_method_65_code 2 (some .int) :: ws) ({ frames := 0, cells := 0, slots := 0, locals := 0 } : Room)) (fun a U => a = #[(.int p0), (.int p1)] ∧ Z.Warmed39 U.vm ∧ U.heap = h0) (fun _ _ _ _ _ => True) (fun _ U o U' => ∃ v L, o = .returned v ∧ Q10 Z p0 p1 h0 n0 v U'.heap L ∧ FrameEnd U o U' L ({ frames := 0, cells := 0, slots := 0, locals := 0 } : Room).cells ({ frames := 0, cells := 0, slots := 0, locals := 0 } : Room).slots) := by
  refine MetFree.of_bodySF (Jvm.Free.JP.mathPlain rfl (by decide +kernel)) hisR ?_
  intro p e s m args below meth cO s₁ Bd hml0 hP hK
  obtain ⟨rfl, hZ, hh⟩ := hP
  have hx := Bd.exec
  have hby := Bd.bytes
  have hml : cO.maxLocals = 2 := hml0
  have hown : s.vm.findClass "java/lang/Math" = some m.cls := findClass_of_methodNamed Bd.named
  have hnm := (name_of_methodNamed Bd.named Bd.method).1
  have hlk : meth.locks = false := BodyLoose.notSynchronized Bd
  have X0 : Stand p l e ({ frames := 0, cells := 0, slots := 0, locals := 0 } : Room) s m #[(.int p0), (.int p1)] below meth cO s₁ [] 0 0 := Stand.of_body Bd
  have e0 : s₁.heap = h0 := by rw [← hh, Bd.state]; rfl
  have N0 := Fr.nil n0
  refine own_in (own_ef_rm10 m p0 p1) ?_
  show Gm p e below s₁ m 0 #[iv p0, iv p1] [] _
  refine own_go (fun t₀ k₀ => XS.iloadN X0.here hx rfl (Jvm.hb hby d10_0) rfl k₀) ?_
  show Gm p e below s₁ m 1 #[iv p0, iv p1] [(.int p0)] _
  refine own_go (fun t₀ k₀ => XS.iloadN X0.here hx rfl (Jvm.hb hby d10_1) rfl k₀) ?_
  show Gm p e below s₁ m 2 #[iv p0, iv p1] [(.int p1), (.int p0)] _
  by_cases c1 : p0 < p1
  · have hfork := trivial
    refine own_go (fun t₀ k₀ => XS.icmpYes X0.here hx rfl (pc0 := 2) (pc' := 9) rfl (Jvm.hb hby d10_2) rfl (XT.ii_lt_t c1) (by decide) (by decide) k₀) ?_
    show Gm p e below s₁ m 9 #[iv p0, iv p1] [] _
    refine own_go (fun t₀ k₀ => XS.iloadN X0.here hx rfl (Jvm.hb hby d10_9) rfl k₀) ?_
    show Gm p e below s₁ m 10 #[iv p0, iv p1] [(.int p1)] _
    exact own_retI X0 hx hlk (t := .int) Bd.returns rfl (by simp) (Jvm.hb hby d10_10) e0 ⟨(by unfold fMx; rw [if_pos c1]), N0, rfl⟩ (by decide) (by decide)
  · have hfork := trivial
    refine own_go (fun t₀ k₀ => XS.icmpNo X0.here hx rfl (Jvm.hb hby d10_2) rfl (XT.ii_lt_f c1) k₀) ?_
    show Gm p e below s₁ m 5 #[iv p0, iv p1] [] _
    refine own_go (fun t₀ k₀ => XS.iloadN X0.here hx rfl (Jvm.hb hby d10_5) rfl k₀) ?_
    show Gm p e below s₁ m 6 #[iv p0, iv p1] [(.int p0)] _
    refine own_go (fun t₀ k₀ => XS.goto X0.here hx rfl (pc0 := 6) (pc' := 10) rfl (Jvm.hb hby d10_6) (by decide) (by decide) k₀) ?_
    show Gm p e below s₁ m 10 #[iv p0, iv p1] [(.int p0)] _
    exact own_retI X0 hx hlk (t := .int) Bd.returns rfl (by simp) (Jvm.hb hby d10_10) e0 ⟨(by unfold fMx; rw [if_neg c1]), N0, rfl⟩ (by decide) (by decide)
theorem d4_0 : decode prog_105_method_7_code 0 = .ok (.aload_n 0, 1) := by decide +kernel
theorem d4_1 : decode prog_105_method_7_code 1 = .ok (.getfield 24, 3) := by decide +kernel
theorem d4_4 : decode prog_105_method_7_code 4 = .ok (.aload_n 0, 1) := by decide +kernel
theorem d4_5 : decode prog_105_method_7_code 5 = .ok (.getfield 15, 3) := by decide +kernel
theorem d4_8 : decode prog_105_method_7_code 8 = .ok (.ifCond .eq 7, 3) := by decide +kernel
theorem d4_11 : decode prog_105_method_7_code 11 = .ok (.iconst 3, 1) := by decide +kernel
theorem d4_12 : decode prog_105_method_7_code 12 = .ok (.goto 4, 3) := by decide +kernel
theorem d4_15 : decode prog_105_method_7_code 15 = .ok (.iconst 0, 1) := by decide +kernel
theorem d4_16 : decode prog_105_method_7_code 16 = .ok (.iadd, 1) := by decide +kernel
theorem d4_17 : decode prog_105_method_7_code 17 = .ok (.i2l, 1) := by decide +kernel
theorem d4_18 : decode prog_105_method_7_code 18 = .ok (.lstore 5, 2) := by decide +kernel
theorem d4_20 : decode prog_105_method_7_code 20 = .ok (.lload_n 1, 1) := by decide +kernel
theorem d4_21 : decode prog_105_method_7_code 21 = .ok (.lload 5, 2) := by decide +kernel
theorem d4_23 : decode prog_105_method_7_code 23 = .ok (.lmul, 1) := by decide +kernel
theorem d4_24 : decode prog_105_method_7_code 24 = .ok (.lstore 7, 2) := by decide +kernel
theorem d4_26 : decode prog_105_method_7_code 26 = .ok (.lload_n 3, 1) := by decide +kernel
theorem d4_27 : decode prog_105_method_7_code 27 = .ok (.lconst 0, 1) := by decide +kernel
theorem d4_28 : decode prog_105_method_7_code 28 = .ok (.lcmp, 1) := by decide +kernel
theorem d4_29 : decode prog_105_method_7_code 29 = .ok (.ifCond .ge 17, 3) := by decide +kernel
theorem d4_32 : decode prog_105_method_7_code 32 = .ok (.lload 7, 2) := by decide +kernel
theorem d4_34 : decode prog_105_method_7_code 34 = .ok (.lload 5, 2) := by decide +kernel
theorem d4_36 : decode prog_105_method_7_code 36 = .ok (.ldc2_w 79, 3) := by decide +kernel
theorem d4_39 : decode prog_105_method_7_code 39 = .ok (.ladd, 1) := by decide +kernel
theorem d4_40 : decode prog_105_method_7_code 40 = .ok (.ladd, 1) := by decide +kernel
theorem d4_41 : decode prog_105_method_7_code 41 = .ok (.lstore 7, 2) := by decide +kernel
theorem d4_43 : decode prog_105_method_7_code 43 = .ok (.goto 16, 3) := by decide +kernel
theorem d4_46 : decode prog_105_method_7_code 46 = .ok (.lload 7, 2) := by decide +kernel
theorem d4_48 : decode prog_105_method_7_code 48 = .ok (.lload_n 3, 1) := by decide +kernel
theorem d4_49 : decode prog_105_method_7_code 49 = .ok (.lload_n 1, 1) := by decide +kernel
theorem d4_50 : decode prog_105_method_7_code 50 = .ok (.lsub, 1) := by decide +kernel
theorem d4_51 : decode prog_105_method_7_code 51 = .ok (.lload 5, 2) := by decide +kernel
theorem d4_53 : decode prog_105_method_7_code 53 = .ok (.lconst 1, 1) := by decide +kernel
theorem d4_54 : decode prog_105_method_7_code 54 = .ok (.ladd, 1) := by decide +kernel
theorem d4_55 : decode prog_105_method_7_code 55 = .ok (.lmul, 1) := by decide +kernel
theorem d4_56 : decode prog_105_method_7_code 56 = .ok (.ladd, 1) := by decide +kernel
theorem d4_57 : decode prog_105_method_7_code 57 = .ok (.lstore 7, 2) := by decide +kernel
theorem d4_59 : decode prog_105_method_7_code 59 = .ok (.lload 7, 2) := by decide +kernel
theorem d4_61 : decode prog_105_method_7_code 61 = .ok (.lreturn, 1) := by decide +kernel
theorem own_pn_rm4 : plainName "com/example/data_in_bounds/datainbounds/metapath/RegexProgram$Fragment" = true := by first | (simp [plainName, overriddenIn]; done) | decide +kernel
theorem own_ef_rm4 (m : MethodId) (r0 : Addr) (q1 : Int64) (q2 : Int64) : entryFrame m #[(.ref r0), (.long q1), (.long q2)] 9 = mkF m 0 #[.val (.ref r0), .val (.long q1), .second, .val (.long q2), .second, .unset, .unset, .unset, .unset] [] := by first | (simp [entryFrame, mkF, argsToLocals, Value.category]; done) | rfl
def fR (q1 : Int64) (q2 : Int64) (n : Int32) (b : Int32) : Int64 := if b = (0 : Int32) then if q2 < (0 : Int64) then ((q1 * ((n + (0 : Int32)).toInt64)) + (((n + (0 : Int32)).toInt64) + (2 : Int64))) else (((q1 * ((n + (0 : Int32)).toInt64)) + ((q2 - q1) * (((n + (0 : Int32)).toInt64) + (1 : Int64))))) else (if q2 < (0 : Int64) then ((q1 * ((n + (3 : Int32)).toInt64)) + (((n + (3 : Int32)).toInt64) + (2 : Int64))) else (((q1 * ((n + (3 : Int32)).toInt64)) + ((q2 - q1) * (((n + (3 : Int32)).toInt64) + (1 : Int64))))))
def Q4 (Z : State) (r0 : Addr) (q1 : Int64) (q2 : Int64) (n : Int32) (b : Int32) (h0 : Heap) (n0 : Nat) (v : Option Value) (h : Heap) (L : List Loc) : Prop := v = some (.long (fR q1 q2 n b)) ∧ Fr n0 L ∧ h = h0
set_option maxRecDepth 65536 in
set_option maxHeartbeats 40000000 in
theorem rm4 (l : Launch) (Z : State) (a0 : Array Value) (hw : ∀ d ∈ tables_1, d.before a0 Z = true) (ws : List Jvm.Cond) (r0 : Addr) (q1 : Int64) (q2 : Int64) (n : Int32) (b : Int32) (h0 : Heap) (n0 : Nat) (Z0 : n0 ≤ h0.size) (F_length : Fld Z h0 r0 "com/example/data_in_bounds/datainbounds/metapath/RegexProgram$Fragment" "length" "I" (.int n)) (F_nullable : Fld Z h0 r0 "com/example/data_in_bounds/datainbounds/metapath/RegexProgram$Fragment" "nullable" "Z" (.int b)) :
    MetFree l (⟨"com/example/data_in_bounds/datainbounds/metapath/RegexProgram$Fragment", "repeatedLength", "(JJ)J"⟩ : MethodName) (head1 (Jvm.Cond.code (⟨"com/example/data_in_bounds/datainbounds/metapath/RegexProgram$Fragment", "repeatedLength", "(JJ)J"⟩ : MethodName) prog_105_method_7_code 9 (some .long) :: ws) ({ frames := 0, cells := 0, slots := 0, locals := 0 } : Room)) (fun a U => a = #[(.ref r0), (.long q1), (.long q2)] ∧ Z.Warmed39 U.vm ∧ U.heap = h0) (fun _ _ _ _ _ => True) (fun _ U o U' => ∃ v L, o = .returned v ∧ Q4 Z r0 q1 q2 n b h0 n0 v U'.heap L ∧ FrameEnd U o U' L ({ frames := 0, cells := 0, slots := 0, locals := 0 } : Room).cells ({ frames := 0, cells := 0, slots := 0, locals := 0 } : Room).slots) := by
  refine MetFree.of_bodySF (plainFor_of_name own_pn_rm4) hisR ?_
  intro p e s m args below meth cO s₁ Bd hml0 hP hK
  obtain ⟨rfl, hZ, hh⟩ := hP
  have hx := Bd.exec
  have hby := Bd.bytes
  have hml : cO.maxLocals = 9 := hml0
  have hown : s.vm.findClass "com/example/data_in_bounds/datainbounds/metapath/RegexProgram$Fragment" = some m.cls := findClass_of_methodNamed Bd.named
  have hnm := (name_of_methodNamed Bd.named Bd.method).1
  have hlk : meth.locks = false := BodyLoose.notSynchronized Bd
  have X0 : Stand p l e ({ frames := 0, cells := 0, slots := 0, locals := 0 } : Room) s m #[(.ref r0), (.long q1), (.long q2)] below meth cO s₁ [] 0 0 := Stand.of_body Bd
  have e0 : s₁.heap = h0 := by rw [← hh, Bd.state]; rfl
  have N0 := Fr.nil n0
  refine own_in (own_ef_rm4 m r0 q1 q2) ?_
  show Gm p e below s₁ m 0 #[rv r0, lv q1, .second, lv q2, .second, .unset, .unset, .unset, .unset] [] _
  refine own_go (fun t₀ k₀ => XS.aloadN X0.here hx rfl (Jvm.hb hby d4_0) rfl rfl k₀) ?_
  show Gm p e below s₁ m 1 #[rv r0, lv q1, .second, lv q2, .second, .unset, .unset, .unset, .unset] [(.ref r0)] _
  obtain ⟨T1, X1, e1, st1⟩ := getF X0 hx hZ hown (host := "") (Or.inl (hw _ (List.mem_of_getElem? (i := 27) rfl))) Via.refl e0 F_length (g := (mkF m 1 #[rv r0, lv q1, .second, lv q2, .second, .unset, .unset, .unset, .unset] [(.ref r0)])) rfl rfl (Jvm.hb hby d4_1)
  refine own_go st1 ?_
  show Gm p e below T1 m 4 #[rv r0, lv q1, .second, lv q2, .second, .unset, .unset, .unset, .unset] [(.int n)] _
  refine own_go (fun t₀ k₀ => XS.aloadN X1.here hx rfl (Jvm.hb hby d4_4) rfl rfl k₀) ?_
  show Gm p e below T1 m 5 #[rv r0, lv q1, .second, lv q2, .second, .unset, .unset, .unset, .unset] [(.ref r0), (.int n)] _
  obtain ⟨T2, X2, e2, st2⟩ := getF X1 hx hZ hown (host := "") (Or.inl (hw _ (List.mem_of_getElem? (i := 12) rfl))) Via.refl e1 F_nullable (g := (mkF m 5 #[rv r0, lv q1, .second, lv q2, .second, .unset, .unset, .unset, .unset] [(.ref r0), (.int n)])) rfl rfl (Jvm.hb hby d4_5)
  refine own_go st2 ?_
  show Gm p e below T2 m 8 #[rv r0, lv q1, .second, lv q2, .second, .unset, .unset, .unset, .unset] [(.int b), (.int n)] _
  by_cases c3 : b = (0 : Int32)
  · have hfork := trivial
    refine own_go (fun t₀ k₀ => XS.ifYes X2.here hx rfl (pc0 := 8) (pc' := 15) rfl (Jvm.hb hby d4_8) rfl (XT.i0_eq_t c3) (by decide) (by decide) k₀) ?_
    show Gm p e below T2 m 15 #[rv r0, lv q1, .second, lv q2, .second, .unset, .unset, .unset, .unset] [(.int n)] _
    refine own_go (fun t₀ k₀ => XS.iconst X2.here hx rfl (Jvm.hb hby d4_15) k₀) ?_
    show Gm p e below T2 m 16 #[rv r0, lv q1, .second, lv q2, .second, .unset, .unset, .unset, .unset] [(.int (0 : Int32)), (.int n)] _
    refine own_go (fun t₀ k₀ => XS.iadd X2.here hx rfl (Jvm.hb hby d4_16) rfl k₀) ?_
    show Gm p e below T2 m 17 #[rv r0, lv q1, .second, lv q2, .second, .unset, .unset, .unset, .unset] [(.int (n + (0 : Int32)))] _
    refine own_go (fun t₀ k₀ => XS.i2l X2.here hx rfl (Jvm.hb hby d4_17) rfl k₀) ?_
    show Gm p e below T2 m 18 #[rv r0, lv q1, .second, lv q2, .second, .unset, .unset, .unset, .unset] [(.long ((n + (0 : Int32)).toInt64))] _
    refine own_go (fun t₀ k₀ => XS.lstore X2.here hx rfl (Jvm.hb hby d4_18) rfl (l' := #[rv r0, lv q1, .second, lv q2, .second, lv ((n + (0 : Int32)).toInt64), .second, .unset, .unset]) rfl k₀) ?_
    show Gm p e below T2 m 20 #[rv r0, lv q1, .second, lv q2, .second, lv ((n + (0 : Int32)).toInt64), .second, .unset, .unset] [] _
    refine own_go (fun t₀ k₀ => XS.lloadN X2.here hx rfl (Jvm.hb hby d4_20) rfl k₀) ?_
    show Gm p e below T2 m 21 #[rv r0, lv q1, .second, lv q2, .second, lv ((n + (0 : Int32)).toInt64), .second, .unset, .unset] [(.long q1)] _
    refine own_go (fun t₀ k₀ => XS.lload X2.here hx rfl (Jvm.hb hby d4_21) rfl k₀) ?_
    show Gm p e below T2 m 23 #[rv r0, lv q1, .second, lv q2, .second, lv ((n + (0 : Int32)).toInt64), .second, .unset, .unset] [(.long ((n + (0 : Int32)).toInt64)), (.long q1)] _
    refine own_go (fun t₀ k₀ => XS.lmul X2.here hx rfl (Jvm.hb hby d4_23) rfl k₀) ?_
    show Gm p e below T2 m 24 #[rv r0, lv q1, .second, lv q2, .second, lv ((n + (0 : Int32)).toInt64), .second, .unset, .unset] [(.long (q1 * ((n + (0 : Int32)).toInt64)))] _
    refine own_go (fun t₀ k₀ => XS.lstore X2.here hx rfl (Jvm.hb hby d4_24) rfl (l' := #[rv r0, lv q1, .second, lv q2, .second, lv ((n + (0 : Int32)).toInt64), .second, lv (q1 * ((n + (0 : Int32)).toInt64)), .second]) rfl k₀) ?_
    show Gm p e below T2 m 26 #[rv r0, lv q1, .second, lv q2, .second, lv ((n + (0 : Int32)).toInt64), .second, lv (q1 * ((n + (0 : Int32)).toInt64)), .second] [] _
    refine own_go (fun t₀ k₀ => XS.lloadN X2.here hx rfl (Jvm.hb hby d4_26) rfl k₀) ?_
    show Gm p e below T2 m 27 #[rv r0, lv q1, .second, lv q2, .second, lv ((n + (0 : Int32)).toInt64), .second, lv (q1 * ((n + (0 : Int32)).toInt64)), .second] [(.long q2)] _
    refine own_go (fun t₀ k₀ => XS.lconst X2.here hx rfl (Jvm.hb hby d4_27) k₀) ?_
    show Gm p e below T2 m 28 #[rv r0, lv q1, .second, lv q2, .second, lv ((n + (0 : Int32)).toInt64), .second, lv (q1 * ((n + (0 : Int32)).toInt64)), .second] [(.long (0 : Int64)), (.long q2)] _
    refine own_go (fun t₀ k₀ => XT.lcmp X2.here hx rfl (Jvm.hb hby d4_28) rfl k₀) ?_
    show Gm p e below T2 m 29 #[rv r0, lv q1, .second, lv q2, .second, lv ((n + (0 : Int32)).toInt64), .second, lv (q1 * ((n + (0 : Int32)).toInt64)), .second] [(.int (XT.cmpL q2 (0 : Int64)))] _
    by_cases c4 : q2 < (0 : Int64)
    · have hfork := trivial
      refine own_go (fun t₀ k₀ => XS.ifNo X2.here hx rfl (Jvm.hb hby d4_29) rfl (XT.ll_ge_f c4) k₀) ?_
      show Gm p e below T2 m 32 #[rv r0, lv q1, .second, lv q2, .second, lv ((n + (0 : Int32)).toInt64), .second, lv (q1 * ((n + (0 : Int32)).toInt64)), .second] [] _
      refine own_go (fun t₀ k₀ => XS.lload X2.here hx rfl (Jvm.hb hby d4_32) rfl k₀) ?_
      show Gm p e below T2 m 34 #[rv r0, lv q1, .second, lv q2, .second, lv ((n + (0 : Int32)).toInt64), .second, lv (q1 * ((n + (0 : Int32)).toInt64)), .second] [(.long (q1 * ((n + (0 : Int32)).toInt64)))] _
      refine own_go (fun t₀ k₀ => XS.lload X2.here hx rfl (Jvm.hb hby d4_34) rfl k₀) ?_
      show Gm p e below T2 m 36 #[rv r0, lv q1, .second, lv q2, .second, lv ((n + (0 : Int32)).toInt64), .second, lv (q1 * ((n + (0 : Int32)).toInt64)), .second] [(.long ((n + (0 : Int32)).toInt64)), (.long (q1 * ((n + (0 : Int32)).toInt64)))] _
      refine own_go (fun t₀ k₀ => X2.ldc2J hx hown (mvT hZ (hw _ (List.mem_of_getElem? (i := 29) rfl))) rfl (Jvm.hb hby d4_36) k₀) ?_
      show Gm p e below T2 m 39 #[rv r0, lv q1, .second, lv q2, .second, lv ((n + (0 : Int32)).toInt64), .second, lv (q1 * ((n + (0 : Int32)).toInt64)), .second] [(.long (2 : Int64)), (.long ((n + (0 : Int32)).toInt64)), (.long (q1 * ((n + (0 : Int32)).toInt64)))] _
      refine own_go (fun t₀ k₀ => XS.ladd X2.here hx rfl (Jvm.hb hby d4_39) rfl k₀) ?_
      show Gm p e below T2 m 40 #[rv r0, lv q1, .second, lv q2, .second, lv ((n + (0 : Int32)).toInt64), .second, lv (q1 * ((n + (0 : Int32)).toInt64)), .second] [(.long (((n + (0 : Int32)).toInt64) + (2 : Int64))), (.long (q1 * ((n + (0 : Int32)).toInt64)))] _
      refine own_go (fun t₀ k₀ => XS.ladd X2.here hx rfl (Jvm.hb hby d4_40) rfl k₀) ?_
      show Gm p e below T2 m 41 #[rv r0, lv q1, .second, lv q2, .second, lv ((n + (0 : Int32)).toInt64), .second, lv (q1 * ((n + (0 : Int32)).toInt64)), .second] [(.long ((q1 * ((n + (0 : Int32)).toInt64)) + (((n + (0 : Int32)).toInt64) + (2 : Int64))))] _
      refine own_go (fun t₀ k₀ => XS.lstore X2.here hx rfl (Jvm.hb hby d4_41) rfl (l' := #[rv r0, lv q1, .second, lv q2, .second, lv ((n + (0 : Int32)).toInt64), .second, lv ((q1 * ((n + (0 : Int32)).toInt64)) + (((n + (0 : Int32)).toInt64) + (2 : Int64))), .second]) rfl k₀) ?_
      show Gm p e below T2 m 43 #[rv r0, lv q1, .second, lv q2, .second, lv ((n + (0 : Int32)).toInt64), .second, lv ((q1 * ((n + (0 : Int32)).toInt64)) + (((n + (0 : Int32)).toInt64) + (2 : Int64))), .second] [] _
      refine own_go (fun t₀ k₀ => XS.goto X2.here hx rfl (pc0 := 43) (pc' := 59) rfl (Jvm.hb hby d4_43) (by decide) (by decide) k₀) ?_
      show Gm p e below T2 m 59 #[rv r0, lv q1, .second, lv q2, .second, lv ((n + (0 : Int32)).toInt64), .second, lv ((q1 * ((n + (0 : Int32)).toInt64)) + (((n + (0 : Int32)).toInt64) + (2 : Int64))), .second] [] _
      refine own_go (fun t₀ k₀ => XS.lload X2.here hx rfl (Jvm.hb hby d4_59) rfl k₀) ?_
      show Gm p e below T2 m 61 #[rv r0, lv q1, .second, lv q2, .second, lv ((n + (0 : Int32)).toInt64), .second, lv ((q1 * ((n + (0 : Int32)).toInt64)) + (((n + (0 : Int32)).toInt64) + (2 : Int64))), .second] [(.long ((q1 * ((n + (0 : Int32)).toInt64)) + (((n + (0 : Int32)).toInt64) + (2 : Int64))))] _
      exact own_retL X2 hx hlk Bd.returns (Jvm.hb hby d4_61) e2 ⟨(by unfold fR; rw [if_pos c3, if_pos c4]), N0, rfl⟩ (by decide) (by decide)
    · have hfork := trivial
      refine own_go (fun t₀ k₀ => XS.ifYes X2.here hx rfl (pc0 := 29) (pc' := 46) rfl (Jvm.hb hby d4_29) rfl (XT.ll_ge_t c4) (by decide) (by decide) k₀) ?_
      show Gm p e below T2 m 46 #[rv r0, lv q1, .second, lv q2, .second, lv ((n + (0 : Int32)).toInt64), .second, lv (q1 * ((n + (0 : Int32)).toInt64)), .second] [] _
      refine own_go (fun t₀ k₀ => XS.lload X2.here hx rfl (Jvm.hb hby d4_46) rfl k₀) ?_
      show Gm p e below T2 m 48 #[rv r0, lv q1, .second, lv q2, .second, lv ((n + (0 : Int32)).toInt64), .second, lv (q1 * ((n + (0 : Int32)).toInt64)), .second] [(.long (q1 * ((n + (0 : Int32)).toInt64)))] _
      refine own_go (fun t₀ k₀ => XS.lloadN X2.here hx rfl (Jvm.hb hby d4_48) rfl k₀) ?_
      show Gm p e below T2 m 49 #[rv r0, lv q1, .second, lv q2, .second, lv ((n + (0 : Int32)).toInt64), .second, lv (q1 * ((n + (0 : Int32)).toInt64)), .second] [(.long q2), (.long (q1 * ((n + (0 : Int32)).toInt64)))] _
      refine own_go (fun t₀ k₀ => XS.lloadN X2.here hx rfl (Jvm.hb hby d4_49) rfl k₀) ?_
      show Gm p e below T2 m 50 #[rv r0, lv q1, .second, lv q2, .second, lv ((n + (0 : Int32)).toInt64), .second, lv (q1 * ((n + (0 : Int32)).toInt64)), .second] [(.long q1), (.long q2), (.long (q1 * ((n + (0 : Int32)).toInt64)))] _
      refine own_go (fun t₀ k₀ => XS.lsub X2.here hx rfl (Jvm.hb hby d4_50) rfl k₀) ?_
      show Gm p e below T2 m 51 #[rv r0, lv q1, .second, lv q2, .second, lv ((n + (0 : Int32)).toInt64), .second, lv (q1 * ((n + (0 : Int32)).toInt64)), .second] [(.long (q2 - q1)), (.long (q1 * ((n + (0 : Int32)).toInt64)))] _
      refine own_go (fun t₀ k₀ => XS.lload X2.here hx rfl (Jvm.hb hby d4_51) rfl k₀) ?_
      show Gm p e below T2 m 53 #[rv r0, lv q1, .second, lv q2, .second, lv ((n + (0 : Int32)).toInt64), .second, lv (q1 * ((n + (0 : Int32)).toInt64)), .second] [(.long ((n + (0 : Int32)).toInt64)), (.long (q2 - q1)), (.long (q1 * ((n + (0 : Int32)).toInt64)))] _
      refine own_go (fun t₀ k₀ => XS.lconst X2.here hx rfl (Jvm.hb hby d4_53) k₀) ?_
      show Gm p e below T2 m 54 #[rv r0, lv q1, .second, lv q2, .second, lv ((n + (0 : Int32)).toInt64), .second, lv (q1 * ((n + (0 : Int32)).toInt64)), .second] [(.long (1 : Int64)), (.long ((n + (0 : Int32)).toInt64)), (.long (q2 - q1)), (.long (q1 * ((n + (0 : Int32)).toInt64)))] _
      refine own_go (fun t₀ k₀ => XS.ladd X2.here hx rfl (Jvm.hb hby d4_54) rfl k₀) ?_
      show Gm p e below T2 m 55 #[rv r0, lv q1, .second, lv q2, .second, lv ((n + (0 : Int32)).toInt64), .second, lv (q1 * ((n + (0 : Int32)).toInt64)), .second] [(.long (((n + (0 : Int32)).toInt64) + (1 : Int64))), (.long (q2 - q1)), (.long (q1 * ((n + (0 : Int32)).toInt64)))] _
      refine own_go (fun t₀ k₀ => XS.lmul X2.here hx rfl (Jvm.hb hby d4_55) rfl k₀) ?_
      show Gm p e below T2 m 56 #[rv r0, lv q1, .second, lv q2, .second, lv ((n + (0 : Int32)).toInt64), .second, lv (q1 * ((n + (0 : Int32)).toInt64)), .second] [(.long ((q2 - q1) * (((n + (0 : Int32)).toInt64) + (1 : Int64)))), (.long (q1 * ((n + (0 : Int32)).toInt64)))] _
      refine own_go (fun t₀ k₀ => XS.ladd X2.here hx rfl (Jvm.hb hby d4_56) rfl k₀) ?_
      show Gm p e below T2 m 57 #[rv r0, lv q1, .second, lv q2, .second, lv ((n + (0 : Int32)).toInt64), .second, lv (q1 * ((n + (0 : Int32)).toInt64)), .second] [(.long ((q1 * ((n + (0 : Int32)).toInt64)) + ((q2 - q1) * (((n + (0 : Int32)).toInt64) + (1 : Int64)))))] _
      refine own_go (fun t₀ k₀ => XS.lstore X2.here hx rfl (Jvm.hb hby d4_57) rfl (l' := #[rv r0, lv q1, .second, lv q2, .second, lv ((n + (0 : Int32)).toInt64), .second, lv ((q1 * ((n + (0 : Int32)).toInt64)) + ((q2 - q1) * (((n + (0 : Int32)).toInt64) + (1 : Int64)))), .second]) rfl k₀) ?_
      show Gm p e below T2 m 59 #[rv r0, lv q1, .second, lv q2, .second, lv ((n + (0 : Int32)).toInt64), .second, lv ((q1 * ((n + (0 : Int32)).toInt64)) + ((q2 - q1) * (((n + (0 : Int32)).toInt64) + (1 : Int64)))), .second] [] _
      refine own_go (fun t₀ k₀ => XS.lload X2.here hx rfl (Jvm.hb hby d4_59) rfl k₀) ?_
      show Gm p e below T2 m 61 #[rv r0, lv q1, .second, lv q2, .second, lv ((n + (0 : Int32)).toInt64), .second, lv ((q1 * ((n + (0 : Int32)).toInt64)) + ((q2 - q1) * (((n + (0 : Int32)).toInt64) + (1 : Int64)))), .second] [(.long ((q1 * ((n + (0 : Int32)).toInt64)) + ((q2 - q1) * (((n + (0 : Int32)).toInt64) + (1 : Int64)))))] _
      exact own_retL X2 hx hlk Bd.returns (Jvm.hb hby d4_61) e2 ⟨(by unfold fR; rw [if_pos c3, if_neg c4]), N0, rfl⟩ (by decide) (by decide)
  · have hfork := trivial
    refine own_go (fun t₀ k₀ => XS.ifNo X2.here hx rfl (Jvm.hb hby d4_8) rfl (XT.i0_eq_f c3) k₀) ?_
    show Gm p e below T2 m 11 #[rv r0, lv q1, .second, lv q2, .second, .unset, .unset, .unset, .unset] [(.int n)] _
    refine own_go (fun t₀ k₀ => XS.iconst X2.here hx rfl (Jvm.hb hby d4_11) k₀) ?_
    show Gm p e below T2 m 12 #[rv r0, lv q1, .second, lv q2, .second, .unset, .unset, .unset, .unset] [(.int (3 : Int32)), (.int n)] _
    refine own_go (fun t₀ k₀ => XS.goto X2.here hx rfl (pc0 := 12) (pc' := 16) rfl (Jvm.hb hby d4_12) (by decide) (by decide) k₀) ?_
    show Gm p e below T2 m 16 #[rv r0, lv q1, .second, lv q2, .second, .unset, .unset, .unset, .unset] [(.int (3 : Int32)), (.int n)] _
    refine own_go (fun t₀ k₀ => XS.iadd X2.here hx rfl (Jvm.hb hby d4_16) rfl k₀) ?_
    show Gm p e below T2 m 17 #[rv r0, lv q1, .second, lv q2, .second, .unset, .unset, .unset, .unset] [(.int (n + (3 : Int32)))] _
    refine own_go (fun t₀ k₀ => XS.i2l X2.here hx rfl (Jvm.hb hby d4_17) rfl k₀) ?_
    show Gm p e below T2 m 18 #[rv r0, lv q1, .second, lv q2, .second, .unset, .unset, .unset, .unset] [(.long ((n + (3 : Int32)).toInt64))] _
    refine own_go (fun t₀ k₀ => XS.lstore X2.here hx rfl (Jvm.hb hby d4_18) rfl (l' := #[rv r0, lv q1, .second, lv q2, .second, lv ((n + (3 : Int32)).toInt64), .second, .unset, .unset]) rfl k₀) ?_
    show Gm p e below T2 m 20 #[rv r0, lv q1, .second, lv q2, .second, lv ((n + (3 : Int32)).toInt64), .second, .unset, .unset] [] _
    refine own_go (fun t₀ k₀ => XS.lloadN X2.here hx rfl (Jvm.hb hby d4_20) rfl k₀) ?_
    show Gm p e below T2 m 21 #[rv r0, lv q1, .second, lv q2, .second, lv ((n + (3 : Int32)).toInt64), .second, .unset, .unset] [(.long q1)] _
    refine own_go (fun t₀ k₀ => XS.lload X2.here hx rfl (Jvm.hb hby d4_21) rfl k₀) ?_
    show Gm p e below T2 m 23 #[rv r0, lv q1, .second, lv q2, .second, lv ((n + (3 : Int32)).toInt64), .second, .unset, .unset] [(.long ((n + (3 : Int32)).toInt64)), (.long q1)] _
    refine own_go (fun t₀ k₀ => XS.lmul X2.here hx rfl (Jvm.hb hby d4_23) rfl k₀) ?_
    show Gm p e below T2 m 24 #[rv r0, lv q1, .second, lv q2, .second, lv ((n + (3 : Int32)).toInt64), .second, .unset, .unset] [(.long (q1 * ((n + (3 : Int32)).toInt64)))] _
    refine own_go (fun t₀ k₀ => XS.lstore X2.here hx rfl (Jvm.hb hby d4_24) rfl (l' := #[rv r0, lv q1, .second, lv q2, .second, lv ((n + (3 : Int32)).toInt64), .second, lv (q1 * ((n + (3 : Int32)).toInt64)), .second]) rfl k₀) ?_
    show Gm p e below T2 m 26 #[rv r0, lv q1, .second, lv q2, .second, lv ((n + (3 : Int32)).toInt64), .second, lv (q1 * ((n + (3 : Int32)).toInt64)), .second] [] _
    refine own_go (fun t₀ k₀ => XS.lloadN X2.here hx rfl (Jvm.hb hby d4_26) rfl k₀) ?_
    show Gm p e below T2 m 27 #[rv r0, lv q1, .second, lv q2, .second, lv ((n + (3 : Int32)).toInt64), .second, lv (q1 * ((n + (3 : Int32)).toInt64)), .second] [(.long q2)] _
    refine own_go (fun t₀ k₀ => XS.lconst X2.here hx rfl (Jvm.hb hby d4_27) k₀) ?_
    show Gm p e below T2 m 28 #[rv r0, lv q1, .second, lv q2, .second, lv ((n + (3 : Int32)).toInt64), .second, lv (q1 * ((n + (3 : Int32)).toInt64)), .second] [(.long (0 : Int64)), (.long q2)] _
    refine own_go (fun t₀ k₀ => XT.lcmp X2.here hx rfl (Jvm.hb hby d4_28) rfl k₀) ?_
    show Gm p e below T2 m 29 #[rv r0, lv q1, .second, lv q2, .second, lv ((n + (3 : Int32)).toInt64), .second, lv (q1 * ((n + (3 : Int32)).toInt64)), .second] [(.int (XT.cmpL q2 (0 : Int64)))] _
    by_cases c5 : q2 < (0 : Int64)
    · have hfork := trivial
      refine own_go (fun t₀ k₀ => XS.ifNo X2.here hx rfl (Jvm.hb hby d4_29) rfl (XT.ll_ge_f c5) k₀) ?_
      show Gm p e below T2 m 32 #[rv r0, lv q1, .second, lv q2, .second, lv ((n + (3 : Int32)).toInt64), .second, lv (q1 * ((n + (3 : Int32)).toInt64)), .second] [] _
      refine own_go (fun t₀ k₀ => XS.lload X2.here hx rfl (Jvm.hb hby d4_32) rfl k₀) ?_
      show Gm p e below T2 m 34 #[rv r0, lv q1, .second, lv q2, .second, lv ((n + (3 : Int32)).toInt64), .second, lv (q1 * ((n + (3 : Int32)).toInt64)), .second] [(.long (q1 * ((n + (3 : Int32)).toInt64)))] _
      refine own_go (fun t₀ k₀ => XS.lload X2.here hx rfl (Jvm.hb hby d4_34) rfl k₀) ?_
      show Gm p e below T2 m 36 #[rv r0, lv q1, .second, lv q2, .second, lv ((n + (3 : Int32)).toInt64), .second, lv (q1 * ((n + (3 : Int32)).toInt64)), .second] [(.long ((n + (3 : Int32)).toInt64)), (.long (q1 * ((n + (3 : Int32)).toInt64)))] _
      refine own_go (fun t₀ k₀ => X2.ldc2J hx hown (mvT hZ (hw _ (List.mem_of_getElem? (i := 29) rfl))) rfl (Jvm.hb hby d4_36) k₀) ?_
      show Gm p e below T2 m 39 #[rv r0, lv q1, .second, lv q2, .second, lv ((n + (3 : Int32)).toInt64), .second, lv (q1 * ((n + (3 : Int32)).toInt64)), .second] [(.long (2 : Int64)), (.long ((n + (3 : Int32)).toInt64)), (.long (q1 * ((n + (3 : Int32)).toInt64)))] _
      refine own_go (fun t₀ k₀ => XS.ladd X2.here hx rfl (Jvm.hb hby d4_39) rfl k₀) ?_
      show Gm p e below T2 m 40 #[rv r0, lv q1, .second, lv q2, .second, lv ((n + (3 : Int32)).toInt64), .second, lv (q1 * ((n + (3 : Int32)).toInt64)), .second] [(.long (((n + (3 : Int32)).toInt64) + (2 : Int64))), (.long (q1 * ((n + (3 : Int32)).toInt64)))] _
      refine own_go (fun t₀ k₀ => XS.ladd X2.here hx rfl (Jvm.hb hby d4_40) rfl k₀) ?_
      show Gm p e below T2 m 41 #[rv r0, lv q1, .second, lv q2, .second, lv ((n + (3 : Int32)).toInt64), .second, lv (q1 * ((n + (3 : Int32)).toInt64)), .second] [(.long ((q1 * ((n + (3 : Int32)).toInt64)) + (((n + (3 : Int32)).toInt64) + (2 : Int64))))] _
      refine own_go (fun t₀ k₀ => XS.lstore X2.here hx rfl (Jvm.hb hby d4_41) rfl (l' := #[rv r0, lv q1, .second, lv q2, .second, lv ((n + (3 : Int32)).toInt64), .second, lv ((q1 * ((n + (3 : Int32)).toInt64)) + (((n + (3 : Int32)).toInt64) + (2 : Int64))), .second]) rfl k₀) ?_
      show Gm p e below T2 m 43 #[rv r0, lv q1, .second, lv q2, .second, lv ((n + (3 : Int32)).toInt64), .second, lv ((q1 * ((n + (3 : Int32)).toInt64)) + (((n + (3 : Int32)).toInt64) + (2 : Int64))), .second] [] _
      refine own_go (fun t₀ k₀ => XS.goto X2.here hx rfl (pc0 := 43) (pc' := 59) rfl (Jvm.hb hby d4_43) (by decide) (by decide) k₀) ?_
      show Gm p e below T2 m 59 #[rv r0, lv q1, .second, lv q2, .second, lv ((n + (3 : Int32)).toInt64), .second, lv ((q1 * ((n + (3 : Int32)).toInt64)) + (((n + (3 : Int32)).toInt64) + (2 : Int64))), .second] [] _
      refine own_go (fun t₀ k₀ => XS.lload X2.here hx rfl (Jvm.hb hby d4_59) rfl k₀) ?_
      show Gm p e below T2 m 61 #[rv r0, lv q1, .second, lv q2, .second, lv ((n + (3 : Int32)).toInt64), .second, lv ((q1 * ((n + (3 : Int32)).toInt64)) + (((n + (3 : Int32)).toInt64) + (2 : Int64))), .second] [(.long ((q1 * ((n + (3 : Int32)).toInt64)) + (((n + (3 : Int32)).toInt64) + (2 : Int64))))] _
      exact own_retL X2 hx hlk Bd.returns (Jvm.hb hby d4_61) e2 ⟨(by unfold fR; rw [if_neg c3, if_pos c5]), N0, rfl⟩ (by decide) (by decide)
    · have hfork := trivial
      refine own_go (fun t₀ k₀ => XS.ifYes X2.here hx rfl (pc0 := 29) (pc' := 46) rfl (Jvm.hb hby d4_29) rfl (XT.ll_ge_t c5) (by decide) (by decide) k₀) ?_
      show Gm p e below T2 m 46 #[rv r0, lv q1, .second, lv q2, .second, lv ((n + (3 : Int32)).toInt64), .second, lv (q1 * ((n + (3 : Int32)).toInt64)), .second] [] _
      refine own_go (fun t₀ k₀ => XS.lload X2.here hx rfl (Jvm.hb hby d4_46) rfl k₀) ?_
      show Gm p e below T2 m 48 #[rv r0, lv q1, .second, lv q2, .second, lv ((n + (3 : Int32)).toInt64), .second, lv (q1 * ((n + (3 : Int32)).toInt64)), .second] [(.long (q1 * ((n + (3 : Int32)).toInt64)))] _
      refine own_go (fun t₀ k₀ => XS.lloadN X2.here hx rfl (Jvm.hb hby d4_48) rfl k₀) ?_
      show Gm p e below T2 m 49 #[rv r0, lv q1, .second, lv q2, .second, lv ((n + (3 : Int32)).toInt64), .second, lv (q1 * ((n + (3 : Int32)).toInt64)), .second] [(.long q2), (.long (q1 * ((n + (3 : Int32)).toInt64)))] _
      refine own_go (fun t₀ k₀ => XS.lloadN X2.here hx rfl (Jvm.hb hby d4_49) rfl k₀) ?_
      show Gm p e below T2 m 50 #[rv r0, lv q1, .second, lv q2, .second, lv ((n + (3 : Int32)).toInt64), .second, lv (q1 * ((n + (3 : Int32)).toInt64)), .second] [(.long q1), (.long q2), (.long (q1 * ((n + (3 : Int32)).toInt64)))] _
      refine own_go (fun t₀ k₀ => XS.lsub X2.here hx rfl (Jvm.hb hby d4_50) rfl k₀) ?_
      show Gm p e below T2 m 51 #[rv r0, lv q1, .second, lv q2, .second, lv ((n + (3 : Int32)).toInt64), .second, lv (q1 * ((n + (3 : Int32)).toInt64)), .second] [(.long (q2 - q1)), (.long (q1 * ((n + (3 : Int32)).toInt64)))] _
      refine own_go (fun t₀ k₀ => XS.lload X2.here hx rfl (Jvm.hb hby d4_51) rfl k₀) ?_
      show Gm p e below T2 m 53 #[rv r0, lv q1, .second, lv q2, .second, lv ((n + (3 : Int32)).toInt64), .second, lv (q1 * ((n + (3 : Int32)).toInt64)), .second] [(.long ((n + (3 : Int32)).toInt64)), (.long (q2 - q1)), (.long (q1 * ((n + (3 : Int32)).toInt64)))] _
      refine own_go (fun t₀ k₀ => XS.lconst X2.here hx rfl (Jvm.hb hby d4_53) k₀) ?_
      show Gm p e below T2 m 54 #[rv r0, lv q1, .second, lv q2, .second, lv ((n + (3 : Int32)).toInt64), .second, lv (q1 * ((n + (3 : Int32)).toInt64)), .second] [(.long (1 : Int64)), (.long ((n + (3 : Int32)).toInt64)), (.long (q2 - q1)), (.long (q1 * ((n + (3 : Int32)).toInt64)))] _
      refine own_go (fun t₀ k₀ => XS.ladd X2.here hx rfl (Jvm.hb hby d4_54) rfl k₀) ?_
      show Gm p e below T2 m 55 #[rv r0, lv q1, .second, lv q2, .second, lv ((n + (3 : Int32)).toInt64), .second, lv (q1 * ((n + (3 : Int32)).toInt64)), .second] [(.long (((n + (3 : Int32)).toInt64) + (1 : Int64))), (.long (q2 - q1)), (.long (q1 * ((n + (3 : Int32)).toInt64)))] _
      refine own_go (fun t₀ k₀ => XS.lmul X2.here hx rfl (Jvm.hb hby d4_55) rfl k₀) ?_
      show Gm p e below T2 m 56 #[rv r0, lv q1, .second, lv q2, .second, lv ((n + (3 : Int32)).toInt64), .second, lv (q1 * ((n + (3 : Int32)).toInt64)), .second] [(.long ((q2 - q1) * (((n + (3 : Int32)).toInt64) + (1 : Int64)))), (.long (q1 * ((n + (3 : Int32)).toInt64)))] _
      refine own_go (fun t₀ k₀ => XS.ladd X2.here hx rfl (Jvm.hb hby d4_56) rfl k₀) ?_
      show Gm p e below T2 m 57 #[rv r0, lv q1, .second, lv q2, .second, lv ((n + (3 : Int32)).toInt64), .second, lv (q1 * ((n + (3 : Int32)).toInt64)), .second] [(.long ((q1 * ((n + (3 : Int32)).toInt64)) + ((q2 - q1) * (((n + (3 : Int32)).toInt64) + (1 : Int64)))))] _
      refine own_go (fun t₀ k₀ => XS.lstore X2.here hx rfl (Jvm.hb hby d4_57) rfl (l' := #[rv r0, lv q1, .second, lv q2, .second, lv ((n + (3 : Int32)).toInt64), .second, lv ((q1 * ((n + (3 : Int32)).toInt64)) + ((q2 - q1) * (((n + (3 : Int32)).toInt64) + (1 : Int64)))), .second]) rfl k₀) ?_
      show Gm p e below T2 m 59 #[rv r0, lv q1, .second, lv q2, .second, lv ((n + (3 : Int32)).toInt64), .second, lv ((q1 * ((n + (3 : Int32)).toInt64)) + ((q2 - q1) * (((n + (3 : Int32)).toInt64) + (1 : Int64)))), .second] [] _
      refine own_go (fun t₀ k₀ => XS.lload X2.here hx rfl (Jvm.hb hby d4_59) rfl k₀) ?_
      show Gm p e below T2 m 61 #[rv r0, lv q1, .second, lv q2, .second, lv ((n + (3 : Int32)).toInt64), .second, lv ((q1 * ((n + (3 : Int32)).toInt64)) + ((q2 - q1) * (((n + (3 : Int32)).toInt64) + (1 : Int64)))), .second] [(.long ((q1 * ((n + (3 : Int32)).toInt64)) + ((q2 - q1) * (((n + (3 : Int32)).toInt64) + (1 : Int64)))))] _
      exact own_retL X2 hx hlk Bd.returns (Jvm.hb hby d4_61) e2 ⟨(by unfold fR; rw [if_neg c3, if_neg c5]), N0, rfl⟩ (by decide) (by decide)
theorem d8_0 : decode prog_105_method_12_code 0 = .ok (.iload_n 1, 1) := by decide +kernel
theorem d8_1 : decode prog_105_method_12_code 1 = .ok (.aload_n 0, 1) := by decide +kernel
theorem d8_2 : decode prog_105_method_12_code 2 = .ok (.getfield 9, 3) := by decide +kernel
theorem d8_5 : decode prog_105_method_12_code 5 = .ok (.arraylength, 1) := by decide +kernel
theorem d8_6 : decode prog_105_method_12_code 6 = .ok (.if_icmp .le 25, 3) := by decide +kernel
theorem d8_31 : decode prog_105_method_12_code 31 = .ok (.return_, 1) := by decide +kernel
theorem own_pn_rm8 : plainName "com/example/data_in_bounds/datainbounds/metapath/RegexProgram$Fragment" = true := by first | (simp [plainName, overriddenIn]; done) | decide +kernel
theorem own_ef_rm8 (m : MethodId) (r0 : Addr) (p1 : Int32) : entryFrame m #[(.ref r0), (.int p1)] 2 = mkF m 0 #[.val (.ref r0), .val (.int p1)] [] := by first | (simp [entryFrame, mkF, argsToLocals, Value.category]; done) | rfl
def Q8 (Z : State) (r0 : Addr) (p1 : Int32) (c1 : Addr) (f : Nat → Value) (h0 : Heap) (n0 : Nat) (v : Option Value) (h : Heap) (L : List Loc) : Prop := v = none ∧ Fr n0 L ∧ h = h0
set_option maxRecDepth 65536 in
set_option maxHeartbeats 40000000 in
theorem rm8 (l : Launch) (Z : State) (a0 : Array Value) (hw : ∀ d ∈ tables_1, d.before a0 Z = true) (ws : List Jvm.Cond) (r0 : Addr) (p1 : Int32) (c1 : Addr) (f : Nat → Value) (h0 : Heap) (n0 : Nat) (Z0 : n0 ≤ h0.size) (F_code : Fld Z h0 r0 "com/example/data_in_bounds/datainbounds/metapath/RegexProgram$Fragment" "code" "[I" (.ref c1)) (A : Af Z h0 c1 .int 8 f) (hle : ¬ (8 : Int32) < p1) :
    MetFree l (⟨"com/example/data_in_bounds/datainbounds/metapath/RegexProgram$Fragment", "ensure", "(I)V"⟩ : MethodName) (head1 (Jvm.Cond.code (⟨"com/example/data_in_bounds/datainbounds/metapath/RegexProgram$Fragment", "ensure", "(I)V"⟩ : MethodName) prog_105_method_12_code 2 none :: ws) ({ frames := 0, cells := 0, slots := 0, locals := 0 } : Room)) (fun a U => a = #[(.ref r0), (.int p1)] ∧ Z.Warmed39 U.vm ∧ U.heap = h0) (fun _ _ _ _ _ => True) (fun _ U o U' => ∃ v L, o = .returned v ∧ Q8 Z r0 p1 c1 f h0 n0 v U'.heap L ∧ FrameEnd U o U' L ({ frames := 0, cells := 0, slots := 0, locals := 0 } : Room).cells ({ frames := 0, cells := 0, slots := 0, locals := 0 } : Room).slots) := by
  refine MetFree.of_bodySF (plainFor_of_name own_pn_rm8) hisR ?_
  intro p e s m args below meth cO s₁ Bd hml0 hP hK
  obtain ⟨rfl, hZ, hh⟩ := hP
  have hx := Bd.exec
  have hby := Bd.bytes
  have hml : cO.maxLocals = 2 := hml0
  have hown : s.vm.findClass "com/example/data_in_bounds/datainbounds/metapath/RegexProgram$Fragment" = some m.cls := findClass_of_methodNamed Bd.named
  have hnm := (name_of_methodNamed Bd.named Bd.method).1
  have hlk : meth.locks = false := BodyLoose.notSynchronized Bd
  have X0 : Stand p l e ({ frames := 0, cells := 0, slots := 0, locals := 0 } : Room) s m #[(.ref r0), (.int p1)] below meth cO s₁ [] 0 0 := Stand.of_body Bd
  have e0 : s₁.heap = h0 := by rw [← hh, Bd.state]; rfl
  have N0 := Fr.nil n0
  refine own_in (own_ef_rm8 m r0 p1) ?_
  show Gm p e below s₁ m 0 #[rv r0, iv p1] [] _
  refine own_go (fun t₀ k₀ => XS.iloadN X0.here hx rfl (Jvm.hb hby d8_0) rfl k₀) ?_
  show Gm p e below s₁ m 1 #[rv r0, iv p1] [(.int p1)] _
  refine own_go (fun t₀ k₀ => XS.aloadN X0.here hx rfl (Jvm.hb hby d8_1) rfl rfl k₀) ?_
  show Gm p e below s₁ m 2 #[rv r0, iv p1] [(.ref r0), (.int p1)] _
  obtain ⟨T1, X1, e1, st1⟩ := getF X0 hx hZ hown (host := "") (Or.inl (hw _ (List.mem_of_getElem? (i := 10) rfl))) Via.refl e0 F_code (g := (mkF m 2 #[rv r0, iv p1] [(.ref r0), (.int p1)])) rfl rfl (Jvm.hb hby d8_2)
  refine own_go st1 ?_
  show Gm p e below T1 m 5 #[rv r0, iv p1] [(.ref c1), (.int p1)] _
  refine own_go (fun t₀ k₀ => own_len X1 hx hZ e1 A (z := (8 : Int32)) rfl (g := (mkF m 5 #[rv r0, iv p1] [(.ref c1), (.int p1)])) rfl rfl (Jvm.hb hby d8_5) k₀) ?_
  show Gm p e below T1 m 6 #[rv r0, iv p1] [(.int (8 : Int32)), (.int p1)] _
  refine own_go (fun t₀ k₀ => XS.icmpYes X1.here hx rfl (pc0 := 6) (pc' := 31) rfl (Jvm.hb hby d8_6) rfl (XT.ii_le_t hle) (by decide) (by decide) k₀) ?_
  show Gm p e below T1 m 31 #[rv r0, iv p1] [] _
  exact own_retV X1 hx hlk Bd.returns (Jvm.hb hby d8_31) e1 ⟨rfl, N0, rfl⟩ (by decide) (by decide)
theorem d7_0 : decode prog_105_method_11_code 0 = .ok (.aload_n 0, 1) := by decide +kernel
theorem d7_1 : decode prog_105_method_11_code 1 = .ok (.aload_n 0, 1) := by decide +kernel
theorem d7_2 : decode prog_105_method_11_code 2 = .ok (.getfield 24, 3) := by decide +kernel
theorem d7_5 : decode prog_105_method_11_code 5 = .ok (.iconst 1, 1) := by decide +kernel
theorem d7_6 : decode prog_105_method_11_code 6 = .ok (.iadd, 1) := by decide +kernel
theorem d7_7 : decode prog_105_method_11_code 7 = .ok (.invokevirtual 28, 3) := by decide +kernel
theorem d7_10 : decode prog_105_method_11_code 10 = .ok (.aload_n 0, 1) := by decide +kernel
theorem d7_11 : decode prog_105_method_11_code 11 = .ok (.getfield 9, 3) := by decide +kernel
theorem d7_14 : decode prog_105_method_11_code 14 = .ok (.aload_n 0, 1) := by decide +kernel
theorem d7_15 : decode prog_105_method_11_code 15 = .ok (.dup, 1) := by decide +kernel
theorem d7_16 : decode prog_105_method_11_code 16 = .ok (.getfield 24, 3) := by decide +kernel
theorem d7_19 : decode prog_105_method_11_code 19 = .ok (.dup_x1, 1) := by decide +kernel
theorem d7_20 : decode prog_105_method_11_code 20 = .ok (.iconst 1, 1) := by decide +kernel
theorem d7_21 : decode prog_105_method_11_code 21 = .ok (.iadd, 1) := by decide +kernel
theorem d7_22 : decode prog_105_method_11_code 22 = .ok (.putfield 24, 3) := by decide +kernel
theorem d7_25 : decode prog_105_method_11_code 25 = .ok (.iload_n 2, 1) := by decide +kernel
theorem d7_26 : decode prog_105_method_11_code 26 = .ok (.iconst 4, 1) := by decide +kernel
theorem d7_27 : decode prog_105_method_11_code 27 = .ok (.ishl, 1) := by decide +kernel
theorem d7_28 : decode prog_105_method_11_code 28 = .ok (.iload_n 1, 1) := by decide +kernel
theorem d7_29 : decode prog_105_method_11_code 29 = .ok (.ior, 1) := by decide +kernel
theorem d7_30 : decode prog_105_method_11_code 30 = .ok (.iastore, 1) := by decide +kernel
theorem d7_31 : decode prog_105_method_11_code 31 = .ok (.aload_n 0, 1) := by decide +kernel
theorem d7_32 : decode prog_105_method_11_code 32 = .ok (.areturn, 1) := by decide +kernel
theorem own_pd0 : parseMethodDescriptor "(I)V" = some ⟨[.int], none⟩ := by decide +kernel
theorem own_pn_rm7 : plainName "com/example/data_in_bounds/datainbounds/metapath/RegexProgram$Fragment" = true := by first | (simp [plainName, overriddenIn]; done) | decide +kernel
theorem own_ef_rm7 (m : MethodId) (r0 : Addr) (p1 : Int32) (p2 : Int32) : entryFrame m #[(.ref r0), (.int p1), (.int p2)] 3 = mkF m 0 #[.val (.ref r0), .val (.int p1), .val (.int p2)] [] := by first | (simp [entryFrame, mkF, argsToLocals, Value.category]; done) | rfl
def Q7 (Z : State) (r0 : Addr) (p1 : Int32) (p2 : Int32) (c1 : Addr) (n : Int32) (b : Int32) (f : Nat → Value) (h0 : Heap) (n0 : Nat) (v : Option Value) (h : Heap) (L : List Loc) : Prop := v = some (.ref r0) ∧ Fr n0 L ∧ Keep h0 h [r0, c1] ∧ Exa Z h r0 "com/example/data_in_bounds/datainbounds/metapath/RegexProgram$Fragment" ∧ Fld Z h r0 "com/example/data_in_bounds/datainbounds/metapath/RegexProgram$Fragment" "code" "[I" (.ref c1) ∧ Fld Z h r0 "com/example/data_in_bounds/datainbounds/metapath/RegexProgram$Fragment" "length" "I" (.int (n + (1 : Int32))) ∧ Fld Z h r0 "com/example/data_in_bounds/datainbounds/metapath/RegexProgram$Fragment" "nullable" "Z" (.int b) ∧ Fld Z h r0 "com/example/data_in_bounds/datainbounds/metapath/RegexProgram$Fragment" "height" "I" (.int (0 : Int32)) ∧ ∃ f', Af Z h c1 .int 8 f'
set_option maxRecDepth 65536 in
set_option maxHeartbeats 40000000 in
theorem rm7 (l : Launch) (Z : State) (a0 : Array Value) (hw : ∀ d ∈ tables_1, d.before a0 Z = true) (ws : List Jvm.Cond) (r0 : Addr) (p1 : Int32) (p2 : Int32) (c1 : Addr) (n : Int32) (b : Int32) (f : Nat → Value) (h0 : Heap) (n0 : Nat) (Z0 : n0 ≤ h0.size) (E_r0 : Exa Z h0 r0 "com/example/data_in_bounds/datainbounds/metapath/RegexProgram$Fragment") (F_code : Fld Z h0 r0 "com/example/data_in_bounds/datainbounds/metapath/RegexProgram$Fragment" "code" "[I" (.ref c1)) (F_length : Fld Z h0 r0 "com/example/data_in_bounds/datainbounds/metapath/RegexProgram$Fragment" "length" "I" (.int n)) (F_nullable : Fld Z h0 r0 "com/example/data_in_bounds/datainbounds/metapath/RegexProgram$Fragment" "nullable" "Z" (.int b)) (F_height : Fld Z h0 r0 "com/example/data_in_bounds/datainbounds/metapath/RegexProgram$Fragment" "height" "I" (.int (0 : Int32))) (A : Af Z h0 c1 .int 8 f) (g_r0 : n0 ≤ r0) (g_c1 : n0 ≤ c1) (ne_rc : r0 ≠ c1) (hle : ¬ (8 : Int32) < (n + (1 : Int32))) (hn0 : ¬ n < 0) (hn8 : n.toNatClampNeg < 8) :
    MetFree l (⟨"com/example/data_in_bounds/datainbounds/metapath/RegexProgram$Fragment", "add", "(II)Lcom/example/data_in_bounds/datainbounds/metapath/RegexProgram$Fragment;"⟩ : MethodName) (head1 (Jvm.Cond.code (⟨"com/example/data_in_bounds/datainbounds/metapath/RegexProgram$Fragment", "add", "(II)Lcom/example/data_in_bounds/datainbounds/metapath/RegexProgram$Fragment;"⟩ : MethodName) prog_105_method_11_code 3 (some (.object "com/example/data_in_bounds/datainbounds/metapath/RegexProgram$Fragment")) :: ws) ({ frames := 1, cells := 0, slots := 0, locals := 13 } : Room)) (fun a U => a = #[(.ref r0), (.int p1), (.int p2)] ∧ Z.Warmed39 U.vm ∧ U.heap = h0) (fun _ _ _ _ _ => True) (fun _ U o U' => ∃ v L, o = .returned v ∧ Q7 Z r0 p1 p2 c1 n b f h0 n0 v U'.heap L ∧ FrameEnd U o U' L ({ frames := 1, cells := 0, slots := 0, locals := 13 } : Room).cells ({ frames := 1, cells := 0, slots := 0, locals := 13 } : Room).slots) := by
  refine MetFree.of_bodySF (plainFor_of_name own_pn_rm7) hisR ?_
  intro p e s m args below meth cO s₁ Bd hml0 hP hK
  obtain ⟨rfl, hZ, hh⟩ := hP
  have hx := Bd.exec
  have hby := Bd.bytes
  have hml : cO.maxLocals = 3 := hml0
  have hown : s.vm.findClass "com/example/data_in_bounds/datainbounds/metapath/RegexProgram$Fragment" = some m.cls := findClass_of_methodNamed Bd.named
  have hnm := (name_of_methodNamed Bd.named Bd.method).1
  have hlk : meth.locks = false := BodyLoose.notSynchronized Bd
  have X0 : Stand p l e ({ frames := 1, cells := 0, slots := 0, locals := 13 } : Room) s m #[(.ref r0), (.int p1), (.int p2)] below meth cO s₁ [] 0 0 := Stand.of_body Bd
  have e0 : s₁.heap = h0 := by rw [← hh, Bd.state]; rfl
  have N0 := Fr.nil n0
  refine own_in (own_ef_rm7 m r0 p1 p2) ?_
  show Gm p e below s₁ m 0 #[rv r0, iv p1, iv p2] [] _
  refine own_go (fun t₀ k₀ => XS.aloadN X0.here hx rfl (Jvm.hb hby d7_0) rfl rfl k₀) ?_
  show Gm p e below s₁ m 1 #[rv r0, iv p1, iv p2] [(.ref r0)] _
  refine own_go (fun t₀ k₀ => XS.aloadN X0.here hx rfl (Jvm.hb hby d7_1) rfl rfl k₀) ?_
  show Gm p e below s₁ m 2 #[rv r0, iv p1, iv p2] [(.ref r0), (.ref r0)] _
  obtain ⟨T1, X1, e1, st1⟩ := getF X0 hx hZ hown (host := "") (Or.inl (hw _ (List.mem_of_getElem? (i := 27) rfl))) Via.refl e0 F_length (g := (mkF m 2 #[rv r0, iv p1, iv p2] [(.ref r0), (.ref r0)])) rfl rfl (Jvm.hb hby d7_2)
  refine own_go st1 ?_
  show Gm p e below T1 m 5 #[rv r0, iv p1, iv p2] [(.int n), (.ref r0)] _
  refine own_go (fun t₀ k₀ => XS.iconst X1.here hx rfl (Jvm.hb hby d7_5) k₀) ?_
  show Gm p e below T1 m 6 #[rv r0, iv p1, iv p2] [(.int (1 : Int32)), (.int n), (.ref r0)] _
  refine own_go (fun t₀ k₀ => XS.iadd X1.here hx rfl (Jvm.hb hby d7_6) rfl k₀) ?_
  show Gm p e below T1 m 7 #[rv r0, iv p1, iv p2] [(.int (n + (1 : Int32))), (.ref r0)] _
  obtain ⟨cq2, q2, q2'⟩ := E_r0.cell
  obtain ⟨_, _, ⟨T2, L2, k2, n2⟩, -, X2, ⟨Lc2, hQ2, l2, y2, z2⟩, st2⟩ := X1.privateBack hx (y := (⟨"com/example/data_in_bounds/datainbounds/metapath/RegexProgram$Fragment", "ensure", "(I)V"⟩ : MethodName)) hown (mvT hZ (hw _ (List.mem_of_getElem? (i := 42) rfl))) (mvT hZ (hw _ (List.mem_of_getElem? (i := 43) rfl))) (own_self hZ (hw _ (List.mem_of_getElem? (i := 1) rfl)) (hw _ (List.mem_of_getElem? (i := 44) rfl)) (hw _ (List.mem_of_getElem? (i := 43) rfl)) (by decide)) (Cond.privateMethod_at (mvP hZ (hw _ (List.mem_of_getElem? (i := 44) rfl)) (args := #[]))) (mvT hZ (hw _ (List.mem_of_getElem? (i := 45) rfl))) (by decide) (backOf (W := 0) (rm8 l Z a0 hw [] r0 (n + (1 : Int32)) c1 f h0 n0 Z0 F_code A hle) hZ (hw _ (List.mem_of_getElem? (i := 45) rfl)) (hw _ (List.mem_of_getElem? (i := 2) rfl)) (by decide) (by decide)) (g := (mkF m 7 #[rv r0, iv p1, iv p2] [(.int (n + (1 : Int32))), (.ref r0)])) rfl (by rw [hml]; rfl) (Steps.refl _) (a := r0) (by rw [e1]; exact q2) q2' (argsL := [(.int (n + (1 : Int32)))]) (rest := []) (lenOf own_pd0 rfl) rfl (by show 2 * 0 + _ ≤ _; exact Nat.le_of_eq rfl) (Jvm.hb hby d7_7) (fun _ _ => ⟨rfl, e1, (by decide : 0 + 0 ≤ _), (by decide : 0 + 0 ≤ _)⟩)
  dsimp only [Pt.U, Pt.locs, Pt.cells, Pt.slots] at X2 l2 y2 z2 st2 hQ2
  subst l2 y2 z2
  obtain ⟨rfl, Nq2, eq2⟩ := hQ2
  have N2 := Fr.app N0 Nq2
  have e2 : T2.heap = h0 := eq2
  refine own_go (fun t k => st2.trans k) ?_
  show Gm p e below T2 m 10 #[rv r0, iv p1, iv p2] [] _
  refine own_go (fun t₀ k₀ => XS.aloadN X2.here hx rfl (Jvm.hb hby d7_10) rfl rfl k₀) ?_
  show Gm p e below T2 m 11 #[rv r0, iv p1, iv p2] [(.ref r0)] _
  obtain ⟨T3, X3, e3, st3⟩ := getF X2 hx hZ hown (host := "") (Or.inl (hw _ (List.mem_of_getElem? (i := 10) rfl))) Via.refl e2 F_code (g := (mkF m 11 #[rv r0, iv p1, iv p2] [(.ref r0)])) rfl rfl (Jvm.hb hby d7_11)
  refine own_go st3 ?_
  show Gm p e below T3 m 14 #[rv r0, iv p1, iv p2] [(.ref c1)] _
  refine own_go (fun t₀ k₀ => XS.aloadN X3.here hx rfl (Jvm.hb hby d7_14) rfl rfl k₀) ?_
  show Gm p e below T3 m 15 #[rv r0, iv p1, iv p2] [(.ref r0), (.ref c1)] _
  refine own_go (fun t₀ k₀ => XS.dup X3.here hx rfl (Jvm.hb hby d7_15) rfl rfl k₀) ?_
  show Gm p e below T3 m 16 #[rv r0, iv p1, iv p2] [(.ref r0), (.ref r0), (.ref c1)] _
  obtain ⟨T4, X4, e4, st4⟩ := getF X3 hx hZ hown (host := "") (Or.inl (hw _ (List.mem_of_getElem? (i := 27) rfl))) Via.refl e3 F_length (g := (mkF m 16 #[rv r0, iv p1, iv p2] [(.ref r0), (.ref r0), (.ref c1)])) rfl rfl (Jvm.hb hby d7_16)
  refine own_go st4 ?_
  show Gm p e below T4 m 19 #[rv r0, iv p1, iv p2] [(.int n), (.ref r0), (.ref c1)] _
  refine own_go (fun t₀ k₀ => XS.dupX1 X4.here hx rfl (Jvm.hb hby d7_19) rfl rfl rfl k₀) ?_
  show Gm p e below T4 m 20 #[rv r0, iv p1, iv p2] [(.int n), (.ref r0), (.int n), (.ref c1)] _
  refine own_go (fun t₀ k₀ => XS.iconst X4.here hx rfl (Jvm.hb hby d7_20) k₀) ?_
  show Gm p e below T4 m 21 #[rv r0, iv p1, iv p2] [(.int (1 : Int32)), (.int n), (.ref r0), (.int n), (.ref c1)] _
  refine own_go (fun t₀ k₀ => XS.iadd X4.here hx rfl (Jvm.hb hby d7_21) rfl k₀) ?_
  show Gm p e below T4 m 22 #[rv r0, iv p1, iv p2] [(.int (n + (1 : Int32))), (.ref r0), (.int n), (.ref c1)] _
  obtain ⟨T5, h5, X5, e5, W5, st5⟩ := putF X4 hx hZ hown (host := "") (Or.inl (hw _ (List.mem_of_getElem? (i := 27) rfl))) Via.refl e4 F_length E_r0 (Or.inl (hw _ (List.mem_of_getElem? (i := 28) rfl))) (hw _ (List.mem_of_getElem? (i := 1) rfl)) (ty := .int) (by decide) rfl rfl (g := (mkF m 22 #[rv r0, iv p1, iv p2] [(.int (n + (1 : Int32))), (.ref r0), (.int n), (.ref c1)])) rfl rfl (Jvm.hb hby d7_22)
  have Fw5 := Fld.same W5 F_length
  have N5 := Fr.snoc X5 N2 g_r0
  have Z5 : n0 ≤ h5.size := W5.size ▸ Z0
  have K5 : Keep h0 h5 [r0, c1] := Keep.wr (Keep.refl h0 [r0, c1]) W5 (Or.inl (List.mem_of_getElem? (i := 0) rfl))
  refine own_go st5 ?_
  show Gm p e below T5 m 25 #[rv r0, iv p1, iv p2] [(.int n), (.ref c1)] _
  refine own_go (fun t₀ k₀ => XS.iloadN X5.here hx rfl (Jvm.hb hby d7_25) rfl k₀) ?_
  show Gm p e below T5 m 26 #[rv r0, iv p1, iv p2] [(.int p2), (.int n), (.ref c1)] _
  refine own_go (fun t₀ k₀ => XS.iconst X5.here hx rfl (Jvm.hb hby d7_26) k₀) ?_
  show Gm p e below T5 m 27 #[rv r0, iv p1, iv p2] [(.int (4 : Int32)), (.int p2), (.int n), (.ref c1)] _
  refine own_go (fun t₀ k₀ => XS.ishl X5.here hx rfl (Jvm.hb hby d7_27) rfl k₀) ?_
  show Gm p e below T5 m 28 #[rv r0, iv p1, iv p2] [(.int (p2 <<< ((4 : Int32) &&& 31))), (.int n), (.ref c1)] _
  refine own_go (fun t₀ k₀ => XS.iloadN X5.here hx rfl (Jvm.hb hby d7_28) rfl k₀) ?_
  show Gm p e below T5 m 29 #[rv r0, iv p1, iv p2] [(.int p1), (.int (p2 <<< ((4 : Int32) &&& 31))), (.int n), (.ref c1)] _
  refine own_go (fun t₀ k₀ => XS.ior X5.here hx rfl (Jvm.hb hby d7_29) rfl k₀) ?_
  show Gm p e below T5 m 30 #[rv r0, iv p1, iv p2] [(.int ((p2 <<< ((4 : Int32) &&& 31)) ||| p1)), (.int n), (.ref c1)] _
  have f6 := (A.other W5 (Ne.symm ne_rc))
  obtain ⟨T7, h7, X7, e7, W7, A7, st7⟩ := own_stI X5 hx hZ e5 f6 (j := n) (k := n.toNatClampNeg) hn0 rfl hn8 (g := (mkF m 30 #[rv r0, iv p1, iv p2] [(.int ((p2 <<< ((4 : Int32) &&& 31)) ||| p1)), (.int n), (.ref c1)])) rfl rfl (Jvm.hb hby d7_30)
  have N7 := Fr.snoc X7 N5 g_c1
  have Z7 : n0 ≤ h7.size := W7.size ▸ Z5
  have K7 : Keep h0 h7 [r0, c1] := Keep.wr K5 W7 (Or.inl (List.mem_of_getElem? (i := 1) rfl))
  refine own_go st7 ?_
  show Gm p e below T7 m 31 #[rv r0, iv p1, iv p2] [] _
  refine own_go (fun t₀ k₀ => XS.aloadN X7.here hx rfl (Jvm.hb hby d7_31) rfl rfl k₀) ?_
  show Gm p e below T7 m 32 #[rv r0, iv p1, iv p2] [(.ref r0)] _
  have f8 := ((E_r0.wr W5).wr W7)
  have f9 := (Fld.other W7 (Fld.other W5 F_code (Or.inr (slot_ne (Or.inl (hw _ (List.mem_of_getElem? (i := 11) rfl))) (Or.inl (hw _ (List.mem_of_getElem? (i := 28) rfl))) (by decide) (t := (.array .int)) (t' := .int) (by decide) (by decide)))) (Or.inl ne_rc))
  have f10 := (Fld.other W7 Fw5 (Or.inl ne_rc))
  have f11 := (Fld.other W7 (Fld.other W5 F_nullable (Or.inr (slot_ne (Or.inl (hw _ (List.mem_of_getElem? (i := 13) rfl))) (Or.inl (hw _ (List.mem_of_getElem? (i := 28) rfl))) (by decide) (t := .boolean) (t' := .int) (by decide) (by decide)))) (Or.inl ne_rc))
  have f12 := (Fld.other W7 (Fld.other W5 F_height (Or.inr (slot_ne (Or.inl (hw _ (List.mem_of_getElem? (i := 56) rfl))) (Or.inl (hw _ (List.mem_of_getElem? (i := 28) rfl))) (by decide) (t := .int) (t' := .int) (by decide) (by decide)))) (Or.inl ne_rc))
  exact own_retA X7 hx hlk rfl Bd.returns rfl (Jvm.hb hby d7_32) e7 ⟨rfl, N7, K7, f8, f9, f10, f11, f12, _, A7⟩ (by decide) (by decide)
theorem d6_0 : decode prog_105_method_2_code 0 = .ok (.new 10, 3) := by decide +kernel
theorem d6_3 : decode prog_105_method_2_code 3 = .ok (.dup, 1) := by decide +kernel
theorem d6_4 : decode prog_105_method_2_code 4 = .ok (.invokespecial 19, 3) := by decide +kernel
theorem d6_7 : decode prog_105_method_2_code 7 = .ok (.astore_n 3, 1) := by decide +kernel
theorem d6_8 : decode prog_105_method_2_code 8 = .ok (.aload_n 3, 1) := by decide +kernel
theorem d6_9 : decode prog_105_method_2_code 9 = .ok (.iload_n 0, 1) := by decide +kernel
theorem d6_10 : decode prog_105_method_2_code 10 = .ok (.iload_n 1, 1) := by decide +kernel
theorem d6_11 : decode prog_105_method_2_code 11 = .ok (.invokevirtual 20, 3) := by decide +kernel
theorem d6_14 : decode prog_105_method_2_code 14 = .ok (.pop, 1) := by decide +kernel
theorem d6_15 : decode prog_105_method_2_code 15 = .ok (.aload_n 3, 1) := by decide +kernel
theorem d6_16 : decode prog_105_method_2_code 16 = .ok (.iload_n 2, 1) := by decide +kernel
theorem d6_17 : decode prog_105_method_2_code 17 = .ok (.putfield 15, 3) := by decide +kernel
theorem d6_20 : decode prog_105_method_2_code 20 = .ok (.aload_n 3, 1) := by decide +kernel
theorem d6_21 : decode prog_105_method_2_code 21 = .ok (.areturn, 1) := by decide +kernel
theorem own_pd1 : parseMethodDescriptor "()V" = some ⟨[], none⟩ := by decide +kernel
theorem own_pd2 : parseMethodDescriptor "(II)Lcom/example/data_in_bounds/datainbounds/metapath/RegexProgram$Fragment;" = some ⟨[.int, .int], some (.object "com/example/data_in_bounds/datainbounds/metapath/RegexProgram$Fragment")⟩ := by decide +kernel
theorem own_pn_rm6 : plainName "com/example/data_in_bounds/datainbounds/metapath/RegexProgram$Fragment" = true := by first | (simp [plainName, overriddenIn]; done) | decide +kernel
theorem own_ef_rm6 (m : MethodId) (p0 : Int32) (p1 : Int32) (p2 : Int32) : entryFrame m #[(.int p0), (.int p1), (.int p2)] 4 = mkF m 0 #[.val (.int p0), .val (.int p1), .val (.int p2), .unset] [] := by first | (simp [entryFrame, mkF, argsToLocals, Value.category]; done) | rfl
def Q6 (Z : State) (p0 : Int32) (p1 : Int32) (p2 : Int32) (h0 : Heap) (n0 : Nat) (v : Option Value) (h : Heap) (L : List Loc) : Prop := ∃ (r c : Addr) (f : Nat → Value), v = some (.ref r) ∧ Fr n0 L ∧ Keep h0 h [] ∧ h0.size ≤ r ∧ h0.size ≤ c ∧ r ≠ c ∧ Exa Z h r "com/example/data_in_bounds/datainbounds/metapath/RegexProgram$Fragment" ∧ Fld Z h r "com/example/data_in_bounds/datainbounds/metapath/RegexProgram$Fragment" "code" "[I" (.ref c) ∧ Fld Z h r "com/example/data_in_bounds/datainbounds/metapath/RegexProgram$Fragment" "length" "I" (.int (1 : Int32)) ∧ Fld Z h r "com/example/data_in_bounds/datainbounds/metapath/RegexProgram$Fragment" "nullable" "Z" (.int p2) ∧ Fld Z h r "com/example/data_in_bounds/datainbounds/metapath/RegexProgram$Fragment" "height" "I" (.int (0 : Int32)) ∧ Af Z h c .int 8 f
set_option maxRecDepth 65536 in
set_option maxHeartbeats 40000000 in
theorem rm6 (l : Launch) (Z : State) (a0 : Array Value) (hw : ∀ d ∈ tables_1, d.before a0 Z = true) (ws : List Jvm.Cond) (p0 : Int32) (p1 : Int32) (p2 : Int32) (h0 : Heap) (n0 : Nat) (Z0 : n0 ≤ h0.size) (hnb : p2 = 0 ∨ p2 = 1) :
    MetFree l (⟨"com/example/data_in_bounds/datainbounds/metapath/RegexProgram$Fragment", "of", "(IIZ)Lcom/example/data_in_bounds/datainbounds/metapath/RegexProgram$Fragment;"⟩ : MethodName) (head1 (Jvm.Cond.code (⟨"com/example/data_in_bounds/datainbounds/metapath/RegexProgram$Fragment", "of", "(IIZ)Lcom/example/data_in_bounds/datainbounds/metapath/RegexProgram$Fragment;"⟩ : MethodName) prog_105_method_2_code 4 (some (.object "com/example/data_in_bounds/datainbounds/metapath/RegexProgram$Fragment")) :: ws) ({ frames := 2, cells := 2, slots := 12, locals := 27 } : Room)) (fun a U => a = #[(.int p0), (.int p1), (.int p2)] ∧ Z.Warmed39 U.vm ∧ U.heap = h0) (fun _ _ _ _ _ => True) (fun _ U o U' => ∃ v L, o = .returned v ∧ Q6 Z p0 p1 p2 h0 n0 v U'.heap L ∧ FrameEnd U o U' L ({ frames := 2, cells := 2, slots := 12, locals := 27 } : Room).cells ({ frames := 2, cells := 2, slots := 12, locals := 27 } : Room).slots) := by
  refine MetFree.of_bodySF (plainFor_of_name own_pn_rm6) hisR ?_
  intro p e s m args below meth cO s₁ Bd hml0 hP hK
  obtain ⟨rfl, hZ, hh⟩ := hP
  have hx := Bd.exec
  have hby := Bd.bytes
  have hml : cO.maxLocals = 4 := hml0
  have hown : s.vm.findClass "com/example/data_in_bounds/datainbounds/metapath/RegexProgram$Fragment" = some m.cls := findClass_of_methodNamed Bd.named
  have hnm := (name_of_methodNamed Bd.named Bd.method).1
  have hlk : meth.locks = false := BodyLoose.notSynchronized Bd
  have X0 : Stand p l e ({ frames := 2, cells := 2, slots := 12, locals := 27 } : Room) s m #[(.int p0), (.int p1), (.int p2)] below meth cO s₁ [] 0 0 := Stand.of_body Bd
  have e0 : s₁.heap = h0 := by rw [← hh, Bd.state]; rfl
  have N0 := Fr.nil n0
  refine own_in (own_ef_rm6 m p0 p1 p2) ?_
  show Gm p e below s₁ m 0 #[iv p0, iv p1, iv p2, .unset] [] _
  obtain ⟨T1, h1, X1, e1, E1, A1, D1, -, st1⟩ := newO X0 hx hZ hown (hw _ (List.mem_of_getElem? (i := 36) rfl)) (hw _ (List.mem_of_getElem? (i := 1) rfl)) (hw _ (List.mem_of_getElem? (i := 2) rfl)) e0 (g := (mkF m 0 #[iv p0, iv p1, iv p2, .unset] [])) rfl (Jvm.hb hby d6_0) (by decide) (by decide)
  obtain ⟨b1, g1⟩ : ∃ z, z = h0.size := ⟨_, rfl⟩
  rw [← g1] at A1 D1 st1
  have g_b1 : n0 ≤ b1 := Nat.le_trans Z0 (Nat.le_of_eq g1.symm)
  have sz_b1 : h0.size ≤ b1 := Nat.le_trans (Keep.refl h0 []).1 (Nat.le_of_eq g1.symm)
  have K1 : Keep h0 h1 [] := Keep.ext (Keep.refl h0 []) E1
  have Z1 : n0 ≤ h1.size := Nat.le_trans Z0 E1.1
  have F_code_b1 : Fld Z h1 b1 "com/example/data_in_bounds/datainbounds/metapath/RegexProgram$Fragment" "code" "[I" .null := D1 (Or.inl (hw _ (List.mem_of_getElem? (i := 11) rfl))) (ty := (.array .int)) (by decide)
  have F_nullable_b1 : Fld Z h1 b1 "com/example/data_in_bounds/datainbounds/metapath/RegexProgram$Fragment" "nullable" "Z" (.int (0 : Int32)) := D1 (Or.inl (hw _ (List.mem_of_getElem? (i := 13) rfl))) (ty := .boolean) (by decide)
  have F_length_b1 : Fld Z h1 b1 "com/example/data_in_bounds/datainbounds/metapath/RegexProgram$Fragment" "length" "I" (.int (0 : Int32)) := D1 (Or.inl (hw _ (List.mem_of_getElem? (i := 28) rfl))) (ty := .int) (by decide)
  have F_height_b1 : Fld Z h1 b1 "com/example/data_in_bounds/datainbounds/metapath/RegexProgram$Fragment" "height" "I" (.int (0 : Int32)) := D1 (Or.inl (hw _ (List.mem_of_getElem? (i := 56) rfl))) (ty := .int) (by decide)
  refine own_go st1 ?_
  show Gm p e below T1 m 3 #[iv p0, iv p1, iv p2, .unset] [(.ref b1)] _
  refine own_go (fun t₀ k₀ => XS.dup X1.here hx rfl (Jvm.hb hby d6_3) rfl rfl k₀) ?_
  show Gm p e below T1 m 4 #[iv p0, iv p1, iv p2, .unset] [(.ref b1), (.ref b1)] _
  obtain ⟨_, _, ⟨T2, L2, k2, n2⟩, -, X2, ⟨Lc2, hQ2, l2, y2, z2⟩, st2⟩ := X1.specialBack hx (y := (⟨"com/example/data_in_bounds/datainbounds/metapath/RegexProgram$Fragment", "<init>", "()V"⟩ : MethodName)) rfl hown (mvT hZ (hw _ (List.mem_of_getElem? (i := 37) rfl))) (mvT hZ (hw _ (List.mem_of_getElem? (i := 4) rfl))) (mvT hZ (hw _ (List.mem_of_getElem? (i := 5) rfl))) (by decide) (backOf (W := 1) (rm1 l Z a0 hw [] b1 h1 n0 Z1 A1 F_code_b1 F_length_b1 F_nullable_b1 F_height_b1 g_b1) hZ (hw _ (List.mem_of_getElem? (i := 5) rfl)) (hw _ (List.mem_of_getElem? (i := 2) rfl)) (by decide) (by decide)) (g := (mkF m 4 #[iv p0, iv p1, iv p2, .unset] [(.ref b1), (.ref b1)])) rfl (by rw [hml]; rfl) (Steps.refl _) (a := b1) (argsL := []) (rest := [(.ref b1)]) (lenOf own_pd1 rfl) rfl (by show 2 * 0 + _ ≤ _; exact Nat.le_of_eq rfl) (Jvm.hb hby d6_4) (fun _ _ => ⟨rfl, e1, (by decide : 1 + 1 ≤ _), (by decide : 4 + 8 ≤ _)⟩)
  dsimp only [Pt.U, Pt.locs, Pt.cells, Pt.slots] at X2 l2 y2 z2 st2 hQ2
  subst l2 y2 z2
  obtain ⟨c2, rfl, Nq2, Kc2, Ec2, hsz2, Fcode2, Ac2, Flen2, Fnul2, Fhei2⟩ := hQ2
  have N2 := Fr.app N0 Nq2
  refine own_go (fun t k => st2.trans k) ?_
  have ne_b1_c2 : b1 ≠ c2 := Nat.ne_of_lt (Nat.lt_of_lt_of_le A1.lt hsz2)
  have Z2 : n0 ≤ T2.heap.size := Nat.le_trans Z1 Kc2.1
  have K2 : Keep h0 T2.heap [] := Keep.trans K1 Kc2 (allS (Or.inr sz_b1) all0)
  have g_c2 : n0 ≤ c2 := Nat.le_trans Z1 hsz2
  have sz_c2 : h0.size ≤ c2 := Nat.le_trans K1.1 hsz2
  show Gm p e below T2 m 7 #[iv p0, iv p1, iv p2, .unset] [(.ref b1)] _
  refine own_go (fun t₀ k₀ => XS.astoreN X2.here hx rfl (Jvm.hb hby d6_7) rfl rfl (l' := #[iv p0, iv p1, iv p2, rv b1]) rfl k₀) ?_
  show Gm p e below T2 m 8 #[iv p0, iv p1, iv p2, rv b1] [] _
  refine own_go (fun t₀ k₀ => XS.aloadN X2.here hx rfl (Jvm.hb hby d6_8) rfl rfl k₀) ?_
  show Gm p e below T2 m 9 #[iv p0, iv p1, iv p2, rv b1] [(.ref b1)] _
  refine own_go (fun t₀ k₀ => XS.iloadN X2.here hx rfl (Jvm.hb hby d6_9) rfl k₀) ?_
  show Gm p e below T2 m 10 #[iv p0, iv p1, iv p2, rv b1] [(.int p0), (.ref b1)] _
  refine own_go (fun t₀ k₀ => XS.iloadN X2.here hx rfl (Jvm.hb hby d6_10) rfl k₀) ?_
  show Gm p e below T2 m 11 #[iv p0, iv p1, iv p2, rv b1] [(.int p1), (.int p0), (.ref b1)] _
  obtain ⟨cq3, q3, q3'⟩ := Ec2.cell
  obtain ⟨_, _, ⟨T3, L3, k3, n3⟩, -, X3, ⟨Lc3, hQ3, l3, y3, z3⟩, st3⟩ := X2.privateBack hx (y := (⟨"com/example/data_in_bounds/datainbounds/metapath/RegexProgram$Fragment", "add", "(II)Lcom/example/data_in_bounds/datainbounds/metapath/RegexProgram$Fragment;"⟩ : MethodName)) hown (mvT hZ (hw _ (List.mem_of_getElem? (i := 38) rfl))) (mvT hZ (hw _ (List.mem_of_getElem? (i := 39) rfl))) (own_self hZ (hw _ (List.mem_of_getElem? (i := 1) rfl)) (hw _ (List.mem_of_getElem? (i := 40) rfl)) (hw _ (List.mem_of_getElem? (i := 39) rfl)) (by decide)) (Cond.privateMethod_at (mvP hZ (hw _ (List.mem_of_getElem? (i := 40) rfl)) (args := #[]))) (mvT hZ (hw _ (List.mem_of_getElem? (i := 41) rfl))) (by decide) (backOf (W := 0) (rm7 l Z a0 hw [] b1 p0 p1 c2 (0 : Int32) (1 : Int32) (fun _ => defaultValue .int) T2.heap n0 Z2 Ec2 Fcode2 Flen2 Fnul2 Fhei2 Ac2 g_b1 g_c2 ne_b1_c2 (by decide) (by decide) (by decide)) hZ (hw _ (List.mem_of_getElem? (i := 41) rfl)) (hw _ (List.mem_of_getElem? (i := 2) rfl)) (by decide) (by decide)) (g := (mkF m 11 #[iv p0, iv p1, iv p2, rv b1] [(.int p1), (.int p0), (.ref b1)])) rfl (by rw [hml]; rfl) (Steps.refl _) (a := b1) q3 q3' (argsL := [(.int p0), (.int p1)]) (rest := []) (lenOf own_pd2 rfl) rfl (by show 2 * 0 + _ ≤ _; exact Nat.le_of_eq rfl) (Jvm.hb hby d6_11) (fun _ _ => ⟨rfl, rfl, (by decide : 2 + 0 ≤ _), (by decide : 12 + 0 ≤ _)⟩)
  dsimp only [Pt.U, Pt.locs, Pt.cells, Pt.slots] at X3 l3 y3 z3 st3 hQ3
  subst l3 y3 z3
  obtain ⟨rfl, Nq3, Kc3, Ec3, Fcode3, Flen3, Fnul3, Fhei3, f3, Ac3⟩ := hQ3
  have N3 := Fr.app N2 Nq3
  refine own_go (fun t k => st3.trans k) ?_
  have Z3 : n0 ≤ T3.heap.size := Nat.le_trans Z2 Kc3.1
  have K3 : Keep h0 T3.heap [] := Keep.trans K2 Kc3 (allS (Or.inr sz_b1) (allS (Or.inr sz_c2) all0))
  show Gm p e below T3 m 14 #[iv p0, iv p1, iv p2, rv b1] [(.ref b1)] _
  refine own_go (fun t₀ k₀ => XS.pop X3.here hx rfl (Jvm.hb hby d6_14) rfl rfl k₀) ?_
  show Gm p e below T3 m 15 #[iv p0, iv p1, iv p2, rv b1] [] _
  refine own_go (fun t₀ k₀ => XS.aloadN X3.here hx rfl (Jvm.hb hby d6_15) rfl rfl k₀) ?_
  show Gm p e below T3 m 16 #[iv p0, iv p1, iv p2, rv b1] [(.ref b1)] _
  refine own_go (fun t₀ k₀ => XS.iloadN X3.here hx rfl (Jvm.hb hby d6_16) rfl k₀) ?_
  show Gm p e below T3 m 17 #[iv p0, iv p1, iv p2, rv b1] [(.int p2), (.ref b1)] _
  obtain ⟨T4, h4, X4, e4, W4, st4⟩ := putFN X3 hx hZ hown (hw _ (List.mem_of_getElem? (i := 12) rfl)) Via.refl rfl Fnul3 Ec3 (Or.inl (hw _ (List.mem_of_getElem? (i := 13) rfl))) (hw _ (List.mem_of_getElem? (i := 1) rfl)) (ty := .boolean) (v' := (.int p2)) (by decide) (by rcases hnb with q | q <;> rw [q] <;> rfl) (by rcases hnb with q | q <;> rw [q] <;> rfl) (g := (mkF m 17 #[iv p0, iv p1, iv p2, rv b1] [(.int p2), (.ref b1)])) rfl rfl (Jvm.hb hby d6_17)
  have Fw4 := Fld.same W4 Fnul3
  have N4 := Fr.snoc X4 N3 g_b1
  have Z4 : n0 ≤ h4.size := W4.size ▸ Z3
  have K4 : Keep h0 h4 [] := Keep.wr K3 W4 (Or.inr sz_b1)
  refine own_go st4 ?_
  show Gm p e below T4 m 20 #[iv p0, iv p1, iv p2, rv b1] [] _
  refine own_go (fun t₀ k₀ => XS.aloadN X4.here hx rfl (Jvm.hb hby d6_20) rfl rfl k₀) ?_
  show Gm p e below T4 m 21 #[iv p0, iv p1, iv p2, rv b1] [(.ref b1)] _
  have f5 := (Ec3.wr W4)
  have f6 := (Fld.other W4 Fcode3 (Or.inr (slot_ne (Or.inl (hw _ (List.mem_of_getElem? (i := 11) rfl))) (Or.inl (hw _ (List.mem_of_getElem? (i := 13) rfl))) (by decide) (t := (.array .int)) (t' := .boolean) (by decide) (by decide))))
  have f7 := (Fld.other W4 Flen3 (Or.inr (slot_ne (Or.inl (hw _ (List.mem_of_getElem? (i := 28) rfl))) (Or.inl (hw _ (List.mem_of_getElem? (i := 13) rfl))) (by decide) (t := .int) (t' := .boolean) (by decide) (by decide))))
  have f8 := (Fld.other W4 Fhei3 (Or.inr (slot_ne (Or.inl (hw _ (List.mem_of_getElem? (i := 56) rfl))) (Or.inl (hw _ (List.mem_of_getElem? (i := 13) rfl))) (by decide) (t := .int) (t' := .boolean) (by decide) (by decide))))
  have f9 := (Ac3.other W4 (Ne.symm ne_b1_c2))
  exact own_retA X4 hx hlk rfl Bd.returns rfl (Jvm.hb hby d6_21) e4 ⟨b1, c2, _, rfl, N4, K4, sz_b1, sz_c2, ne_b1_c2, f5, f6, f7, Fw4, f8, f9⟩ (by decide) (by decide)
theorem d9_0 : decode prog_105_method_4_code 0 = .ok (.aload_n 0, 1) := by decide +kernel
theorem d9_1 : decode prog_105_method_4_code 1 = .ok (.aload_n 0, 1) := by decide +kernel
theorem d9_2 : decode prog_105_method_4_code 2 = .ok (.getfield 24, 3) := by decide +kernel
theorem d9_5 : decode prog_105_method_4_code 5 = .ok (.aload_n 1, 1) := by decide +kernel
theorem d9_6 : decode prog_105_method_4_code 6 = .ok (.getfield 24, 3) := by decide +kernel
theorem d9_9 : decode prog_105_method_4_code 9 = .ok (.iadd, 1) := by decide +kernel
theorem d9_10 : decode prog_105_method_4_code 10 = .ok (.invokevirtual 28, 3) := by decide +kernel
theorem d9_13 : decode prog_105_method_4_code 13 = .ok (.aload_n 1, 1) := by decide +kernel
theorem d9_14 : decode prog_105_method_4_code 14 = .ok (.getfield 9, 3) := by decide +kernel
theorem d9_17 : decode prog_105_method_4_code 17 = .ok (.iconst 0, 1) := by decide +kernel
theorem d9_18 : decode prog_105_method_4_code 18 = .ok (.aload_n 0, 1) := by decide +kernel
theorem d9_19 : decode prog_105_method_4_code 19 = .ok (.getfield 9, 3) := by decide +kernel
theorem d9_22 : decode prog_105_method_4_code 22 = .ok (.aload_n 0, 1) := by decide +kernel
theorem d9_23 : decode prog_105_method_4_code 23 = .ok (.getfield 24, 3) := by decide +kernel
theorem d9_26 : decode prog_105_method_4_code 26 = .ok (.aload_n 1, 1) := by decide +kernel
theorem d9_27 : decode prog_105_method_4_code 27 = .ok (.getfield 24, 3) := by decide +kernel
theorem d9_30 : decode prog_105_method_4_code 30 = .ok (.invokestatic 32, 3) := by decide +kernel
theorem d9_33 : decode prog_105_method_4_code 33 = .ok (.aload_n 0, 1) := by decide +kernel
theorem d9_34 : decode prog_105_method_4_code 34 = .ok (.dup, 1) := by decide +kernel
theorem d9_35 : decode prog_105_method_4_code 35 = .ok (.getfield 24, 3) := by decide +kernel
theorem d9_38 : decode prog_105_method_4_code 38 = .ok (.aload_n 1, 1) := by decide +kernel
theorem d9_39 : decode prog_105_method_4_code 39 = .ok (.getfield 24, 3) := by decide +kernel
theorem d9_42 : decode prog_105_method_4_code 42 = .ok (.iadd, 1) := by decide +kernel
theorem d9_43 : decode prog_105_method_4_code 43 = .ok (.putfield 24, 3) := by decide +kernel
theorem d9_46 : decode prog_105_method_4_code 46 = .ok (.aload_n 0, 1) := by decide +kernel
theorem d9_47 : decode prog_105_method_4_code 47 = .ok (.dup, 1) := by decide +kernel
theorem d9_48 : decode prog_105_method_4_code 48 = .ok (.getfield 15, 3) := by decide +kernel
theorem d9_51 : decode prog_105_method_4_code 51 = .ok (.aload_n 1, 1) := by decide +kernel
theorem d9_52 : decode prog_105_method_4_code 52 = .ok (.getfield 15, 3) := by decide +kernel
theorem d9_55 : decode prog_105_method_4_code 55 = .ok (.iand, 1) := by decide +kernel
theorem d9_56 : decode prog_105_method_4_code 56 = .ok (.putfield 15, 3) := by decide +kernel
theorem d9_59 : decode prog_105_method_4_code 59 = .ok (.aload_n 0, 1) := by decide +kernel
theorem d9_60 : decode prog_105_method_4_code 60 = .ok (.aload_n 0, 1) := by decide +kernel
theorem d9_61 : decode prog_105_method_4_code 61 = .ok (.getfield 38, 3) := by decide +kernel
theorem d9_64 : decode prog_105_method_4_code 64 = .ok (.aload_n 1, 1) := by decide +kernel
theorem d9_65 : decode prog_105_method_4_code 65 = .ok (.getfield 38, 3) := by decide +kernel
theorem d9_68 : decode prog_105_method_4_code 68 = .ok (.invokestatic 41, 3) := by decide +kernel
theorem d9_71 : decode prog_105_method_4_code 71 = .ok (.putfield 38, 3) := by decide +kernel
theorem d9_74 : decode prog_105_method_4_code 74 = .ok (.aload_n 0, 1) := by decide +kernel
theorem d9_75 : decode prog_105_method_4_code 75 = .ok (.areturn, 1) := by decide +kernel
theorem own_pd3 : parseMethodDescriptor "(II)I" = some ⟨[.int, .int], some .int⟩ := by decide +kernel
theorem own_pn_rm9 : plainName "com/example/data_in_bounds/datainbounds/metapath/RegexProgram$Fragment" = true := by first | (simp [plainName, overriddenIn]; done) | decide +kernel
theorem own_ef_rm9 (m : MethodId) (r0 : Addr) (r1 : Addr) : entryFrame m #[(.ref r0), (.ref r1)] 2 = mkF m 0 #[.val (.ref r0), .val (.ref r1)] [] := by first | (simp [entryFrame, mkF, argsToLocals, Value.category]; done) | rfl
def Q9 (Z : State) (r0 : Addr) (r1 : Addr) (c0 : Addr) (c1 : Addr) (n : Int32) (b0 : Int32) (b1 : Int32) (f0 : Nat → Value) (f1 : Nat → Value) (h0 : Heap) (n0 : Nat) (v : Option Value) (h : Heap) (L : List Loc) : Prop := v = some (.ref r0) ∧ Fr n0 L ∧ Keep h0 h [r0, c0] ∧ Exa Z h r0 "com/example/data_in_bounds/datainbounds/metapath/RegexProgram$Fragment" ∧ Fld Z h r0 "com/example/data_in_bounds/datainbounds/metapath/RegexProgram$Fragment" "code" "[I" (.ref c0) ∧ Fld Z h r0 "com/example/data_in_bounds/datainbounds/metapath/RegexProgram$Fragment" "length" "I" (.int (n + (1 : Int32))) ∧ Fld Z h r0 "com/example/data_in_bounds/datainbounds/metapath/RegexProgram$Fragment" "nullable" "Z" (.int (b0 &&& b1)) ∧ Fld Z h r0 "com/example/data_in_bounds/datainbounds/metapath/RegexProgram$Fragment" "height" "I" (.int (0 : Int32)) ∧ ∃ f', Af Z h c0 .int 8 f'
set_option maxRecDepth 65536 in
set_option maxHeartbeats 40000000 in
theorem rm9 (l : Launch) (Z : State) (a0 : Array Value) (hw : ∀ d ∈ tables_1, d.before a0 Z = true) (ws : List Jvm.Cond) (r0 : Addr) (r1 : Addr) (c0 : Addr) (c1 : Addr) (n : Int32) (b0 : Int32) (b1 : Int32) (f0 : Nat → Value) (f1 : Nat → Value) (h0 : Heap) (n0 : Nat) (Z0 : n0 ≤ h0.size) (E_r0 : Exa Z h0 r0 "com/example/data_in_bounds/datainbounds/metapath/RegexProgram$Fragment") (F_code_r0 : Fld Z h0 r0 "com/example/data_in_bounds/datainbounds/metapath/RegexProgram$Fragment" "code" "[I" (.ref c0)) (F_length_r0 : Fld Z h0 r0 "com/example/data_in_bounds/datainbounds/metapath/RegexProgram$Fragment" "length" "I" (.int n)) (F_nullable_r0 : Fld Z h0 r0 "com/example/data_in_bounds/datainbounds/metapath/RegexProgram$Fragment" "nullable" "Z" (.int b0)) (F_height_r0 : Fld Z h0 r0 "com/example/data_in_bounds/datainbounds/metapath/RegexProgram$Fragment" "height" "I" (.int (0 : Int32))) (A_c0 : Af Z h0 c0 .int 8 f0) (E_r1 : Exa Z h0 r1 "com/example/data_in_bounds/datainbounds/metapath/RegexProgram$Fragment") (F_code_r1 : Fld Z h0 r1 "com/example/data_in_bounds/datainbounds/metapath/RegexProgram$Fragment" "code" "[I" (.ref c1)) (F_length_r1 : Fld Z h0 r1 "com/example/data_in_bounds/datainbounds/metapath/RegexProgram$Fragment" "length" "I" (.int (1 : Int32))) (F_nullable_r1 : Fld Z h0 r1 "com/example/data_in_bounds/datainbounds/metapath/RegexProgram$Fragment" "nullable" "Z" (.int b1)) (F_height_r1 : Fld Z h0 r1 "com/example/data_in_bounds/datainbounds/metapath/RegexProgram$Fragment" "height" "I" (.int (0 : Int32))) (A_c1 : Af Z h0 c1 .int 8 f1) (ne_r0_r1 : r0 ≠ r1) (ne_r0_c0 : r0 ≠ c0) (ne_r0_c1 : r0 ≠ c1) (ne_r1_c0 : r1 ≠ c0) (ne_c1_c0 : c1 ≠ c0) (g_r0 : n0 ≤ r0) (g_c0 : n0 ≤ c0) (hle : ¬ (8 : Int32) < (n + (1 : Int32))) (hn0 : ¬ n < 0) (hn8 : n.toNatClampNeg < 8) (hb0 : b0 = 0 ∨ b0 = 1) (hb1 : b1 = 0 ∨ b1 = 1) :
    MetFree l (⟨"com/example/data_in_bounds/datainbounds/metapath/RegexProgram$Fragment", "append", "(Lcom/example/data_in_bounds/datainbounds/metapath/RegexProgram$Fragment;)Lcom/example/data_in_bounds/datainbounds/metapath/RegexProgram$Fragment;"⟩ : MethodName) (head1 (Jvm.Cond.code (⟨"com/example/data_in_bounds/datainbounds/metapath/RegexProgram$Fragment", "append", "(Lcom/example/data_in_bounds/datainbounds/metapath/RegexProgram$Fragment;)Lcom/example/data_in_bounds/datainbounds/metapath/RegexProgram$Fragment;"⟩ : MethodName) prog_105_method_4_code 2 (some (.object "com/example/data_in_bounds/datainbounds/metapath/RegexProgram$Fragment")) :: ws) ({ frames := 1, cells := 0, slots := 0, locals := 40 } : Room)) (fun a U => a = #[(.ref r0), (.ref r1)] ∧ Z.Warmed39 U.vm ∧ U.heap = h0) (fun _ _ _ _ _ => True) (fun _ U o U' => ∃ v L, o = .returned v ∧ Q9 Z r0 r1 c0 c1 n b0 b1 f0 f1 h0 n0 v U'.heap L ∧ FrameEnd U o U' L ({ frames := 1, cells := 0, slots := 0, locals := 40 } : Room).cells ({ frames := 1, cells := 0, slots := 0, locals := 40 } : Room).slots) := by
  refine MetFree.of_bodySF (plainFor_of_name own_pn_rm9) hisR ?_
  intro p e s m args below meth cO s₁ Bd hml0 hP hK
  obtain ⟨rfl, hZ, hh⟩ := hP
  have hx := Bd.exec
  have hby := Bd.bytes
  have hml : cO.maxLocals = 2 := hml0
  have hown : s.vm.findClass "com/example/data_in_bounds/datainbounds/metapath/RegexProgram$Fragment" = some m.cls := findClass_of_methodNamed Bd.named
  have hnm := (name_of_methodNamed Bd.named Bd.method).1
  have hlk : meth.locks = false := BodyLoose.notSynchronized Bd
  have X0 : Stand p l e ({ frames := 1, cells := 0, slots := 0, locals := 40 } : Room) s m #[(.ref r0), (.ref r1)] below meth cO s₁ [] 0 0 := Stand.of_body Bd
  have e0 : s₁.heap = h0 := by rw [← hh, Bd.state]; rfl
  have N0 := Fr.nil n0
  refine own_in (own_ef_rm9 m r0 r1) ?_
  show Gm p e below s₁ m 0 #[rv r0, rv r1] [] _
  refine own_go (fun t₀ k₀ => XS.aloadN X0.here hx rfl (Jvm.hb hby d9_0) rfl rfl k₀) ?_
  show Gm p e below s₁ m 1 #[rv r0, rv r1] [(.ref r0)] _
  refine own_go (fun t₀ k₀ => XS.aloadN X0.here hx rfl (Jvm.hb hby d9_1) rfl rfl k₀) ?_
  show Gm p e below s₁ m 2 #[rv r0, rv r1] [(.ref r0), (.ref r0)] _
  obtain ⟨T1, X1, e1, st1⟩ := getF X0 hx hZ hown (host := "") (Or.inl (hw _ (List.mem_of_getElem? (i := 27) rfl))) Via.refl e0 F_length_r0 (g := (mkF m 2 #[rv r0, rv r1] [(.ref r0), (.ref r0)])) rfl rfl (Jvm.hb hby d9_2)
  refine own_go st1 ?_
  show Gm p e below T1 m 5 #[rv r0, rv r1] [(.int n), (.ref r0)] _
  refine own_go (fun t₀ k₀ => XS.aloadN X1.here hx rfl (Jvm.hb hby d9_5) rfl rfl k₀) ?_
  show Gm p e below T1 m 6 #[rv r0, rv r1] [(.ref r1), (.int n), (.ref r0)] _
  obtain ⟨T2, X2, e2, st2⟩ := getF X1 hx hZ hown (host := "") (Or.inl (hw _ (List.mem_of_getElem? (i := 27) rfl))) Via.refl e1 F_length_r1 (g := (mkF m 6 #[rv r0, rv r1] [(.ref r1), (.int n), (.ref r0)])) rfl rfl (Jvm.hb hby d9_6)
  refine own_go st2 ?_
  show Gm p e below T2 m 9 #[rv r0, rv r1] [(.int (1 : Int32)), (.int n), (.ref r0)] _
  refine own_go (fun t₀ k₀ => XS.iadd X2.here hx rfl (Jvm.hb hby d9_9) rfl k₀) ?_
  show Gm p e below T2 m 10 #[rv r0, rv r1] [(.int (n + (1 : Int32))), (.ref r0)] _
  obtain ⟨cq3, q3, q3'⟩ := E_r0.cell
  obtain ⟨_, _, ⟨T3, L3, k3, n3⟩, -, X3, ⟨Lc3, hQ3, l3, y3, z3⟩, st3⟩ := X2.privateBack hx (y := (⟨"com/example/data_in_bounds/datainbounds/metapath/RegexProgram$Fragment", "ensure", "(I)V"⟩ : MethodName)) hown (mvT hZ (hw _ (List.mem_of_getElem? (i := 42) rfl))) (mvT hZ (hw _ (List.mem_of_getElem? (i := 43) rfl))) (own_self hZ (hw _ (List.mem_of_getElem? (i := 1) rfl)) (hw _ (List.mem_of_getElem? (i := 44) rfl)) (hw _ (List.mem_of_getElem? (i := 43) rfl)) (by decide)) (Cond.privateMethod_at (mvP hZ (hw _ (List.mem_of_getElem? (i := 44) rfl)) (args := #[]))) (mvT hZ (hw _ (List.mem_of_getElem? (i := 45) rfl))) (by decide) (backOf (W := 0) (rm8 l Z a0 hw [] r0 (n + (1 : Int32)) c0 f0 h0 n0 Z0 F_code_r0 A_c0 hle) hZ (hw _ (List.mem_of_getElem? (i := 45) rfl)) (hw _ (List.mem_of_getElem? (i := 2) rfl)) (by decide) (by decide)) (g := (mkF m 10 #[rv r0, rv r1] [(.int (n + (1 : Int32))), (.ref r0)])) rfl (by rw [hml]; rfl) (Steps.refl _) (a := r0) (by rw [e2]; exact q3) q3' (argsL := [(.int (n + (1 : Int32)))]) (rest := []) (lenOf own_pd0 rfl) rfl (by show 2 * 0 + _ ≤ _; exact Nat.le_of_eq rfl) (Jvm.hb hby d9_10) (fun _ _ => ⟨rfl, e2, (by decide : 0 + 0 ≤ _), (by decide : 0 + 0 ≤ _)⟩)
  dsimp only [Pt.U, Pt.locs, Pt.cells, Pt.slots] at X3 l3 y3 z3 st3 hQ3
  subst l3 y3 z3
  obtain ⟨rfl, Nq3, eq3⟩ := hQ3
  have N3 := Fr.app N0 Nq3
  have e3 : T3.heap = h0 := eq3
  refine own_go (fun t k => st3.trans k) ?_
  show Gm p e below T3 m 13 #[rv r0, rv r1] [] _
  refine own_go (fun t₀ k₀ => XS.aloadN X3.here hx rfl (Jvm.hb hby d9_13) rfl rfl k₀) ?_
  show Gm p e below T3 m 14 #[rv r0, rv r1] [(.ref r1)] _
  obtain ⟨T4, X4, e4, st4⟩ := getF X3 hx hZ hown (host := "") (Or.inl (hw _ (List.mem_of_getElem? (i := 10) rfl))) Via.refl e3 F_code_r1 (g := (mkF m 14 #[rv r0, rv r1] [(.ref r1)])) rfl rfl (Jvm.hb hby d9_14)
  refine own_go st4 ?_
  show Gm p e below T4 m 17 #[rv r0, rv r1] [(.ref c1)] _
  refine own_go (fun t₀ k₀ => XS.iconst X4.here hx rfl (Jvm.hb hby d9_17) k₀) ?_
  show Gm p e below T4 m 18 #[rv r0, rv r1] [(.int (0 : Int32)), (.ref c1)] _
  refine own_go (fun t₀ k₀ => XS.aloadN X4.here hx rfl (Jvm.hb hby d9_18) rfl rfl k₀) ?_
  show Gm p e below T4 m 19 #[rv r0, rv r1] [(.ref r0), (.int (0 : Int32)), (.ref c1)] _
  obtain ⟨T5, X5, e5, st5⟩ := getF X4 hx hZ hown (host := "") (Or.inl (hw _ (List.mem_of_getElem? (i := 10) rfl))) Via.refl e4 F_code_r0 (g := (mkF m 19 #[rv r0, rv r1] [(.ref r0), (.int (0 : Int32)), (.ref c1)])) rfl rfl (Jvm.hb hby d9_19)
  refine own_go st5 ?_
  show Gm p e below T5 m 22 #[rv r0, rv r1] [(.ref c0), (.int (0 : Int32)), (.ref c1)] _
  refine own_go (fun t₀ k₀ => XS.aloadN X5.here hx rfl (Jvm.hb hby d9_22) rfl rfl k₀) ?_
  show Gm p e below T5 m 23 #[rv r0, rv r1] [(.ref r0), (.ref c0), (.int (0 : Int32)), (.ref c1)] _
  obtain ⟨T6, X6, e6, st6⟩ := getF X5 hx hZ hown (host := "") (Or.inl (hw _ (List.mem_of_getElem? (i := 27) rfl))) Via.refl e5 F_length_r0 (g := (mkF m 23 #[rv r0, rv r1] [(.ref r0), (.ref c0), (.int (0 : Int32)), (.ref c1)])) rfl rfl (Jvm.hb hby d9_23)
  refine own_go st6 ?_
  show Gm p e below T6 m 26 #[rv r0, rv r1] [(.int n), (.ref c0), (.int (0 : Int32)), (.ref c1)] _
  refine own_go (fun t₀ k₀ => XS.aloadN X6.here hx rfl (Jvm.hb hby d9_26) rfl rfl k₀) ?_
  show Gm p e below T6 m 27 #[rv r0, rv r1] [(.ref r1), (.int n), (.ref c0), (.int (0 : Int32)), (.ref c1)] _
  obtain ⟨T7, X7, e7, st7⟩ := getF X6 hx hZ hown (host := "") (Or.inl (hw _ (List.mem_of_getElem? (i := 27) rfl))) Via.refl e6 F_length_r1 (g := (mkF m 27 #[rv r0, rv r1] [(.ref r1), (.int n), (.ref c0), (.int (0 : Int32)), (.ref c1)])) rfl rfl (Jvm.hb hby d9_27)
  refine own_go st7 ?_
  show Gm p e below T7 m 30 #[rv r0, rv r1] [(.int (1 : Int32)), (.int n), (.ref c0), (.int (0 : Int32)), (.ref c1)] _
  obtain ⟨T8, h8, L8, X8, e8, N8, Kc8, Ac8, st8⟩ := own_cp X7 hx hZ hown (hw _ (List.mem_of_getElem? (i := 51) rfl)) (hw _ (List.mem_of_getElem? (i := 54) rfl)) (hw _ (List.mem_of_getElem? (i := 52) rfl)) (hw _ (List.mem_of_getElem? (i := 53) rfl)) e7 (ks := 0) (kd := n.toNatClampNeg) (kn := 1) A_c1 A_c0 rfl (by decide) hn0 (by decide) rfl rfl rfl (by decide) (by omega) N3 g_c0 (g := (mkF m 30 #[rv r0, rv r1] [(.int (1 : Int32)), (.int n), (.ref c0), (.int (0 : Int32)), (.ref c1)])) rfl (by rw [hml]; rfl) rfl (Jvm.hb hby d9_30) (by decide) (W := 0) (by show 2 * 0 + _ ≤ _; exact Nat.le_of_eq rfl) (by decide)
  have Z8 : n0 ≤ h8.size := Nat.le_trans Z0 Kc8.1
  have K8 : Keep h0 h8 [r0, c0] := Keep.trans (Keep.refl h0 [r0, c0]) Kc8 (allS (Or.inl (List.mem_of_getElem? (i := 1) rfl)) all0)
  refine own_go st8 ?_
  show Gm p e below T8 m 33 #[rv r0, rv r1] [] _
  refine own_go (fun t₀ k₀ => XS.aloadN X8.here hx rfl (Jvm.hb hby d9_33) rfl rfl k₀) ?_
  show Gm p e below T8 m 34 #[rv r0, rv r1] [(.ref r0)] _
  refine own_go (fun t₀ k₀ => XS.dup X8.here hx rfl (Jvm.hb hby d9_34) rfl rfl k₀) ?_
  show Gm p e below T8 m 35 #[rv r0, rv r1] [(.ref r0), (.ref r0)] _
  have f9 := (F_length_r0.keep Kc8 (ninS ne_r0_c0 nin0))
  obtain ⟨T10, X10, e10, st10⟩ := getF X8 hx hZ hown (host := "") (Or.inl (hw _ (List.mem_of_getElem? (i := 27) rfl))) Via.refl e8 f9 (g := (mkF m 35 #[rv r0, rv r1] [(.ref r0), (.ref r0)])) rfl rfl (Jvm.hb hby d9_35)
  refine own_go st10 ?_
  show Gm p e below T10 m 38 #[rv r0, rv r1] [(.int n), (.ref r0)] _
  refine own_go (fun t₀ k₀ => XS.aloadN X10.here hx rfl (Jvm.hb hby d9_38) rfl rfl k₀) ?_
  show Gm p e below T10 m 39 #[rv r0, rv r1] [(.ref r1), (.int n), (.ref r0)] _
  have f11 := (F_length_r1.keep Kc8 (ninS ne_r1_c0 nin0))
  obtain ⟨T12, X12, e12, st12⟩ := getF X10 hx hZ hown (host := "") (Or.inl (hw _ (List.mem_of_getElem? (i := 27) rfl))) Via.refl e10 f11 (g := (mkF m 39 #[rv r0, rv r1] [(.ref r1), (.int n), (.ref r0)])) rfl rfl (Jvm.hb hby d9_39)
  refine own_go st12 ?_
  show Gm p e below T12 m 42 #[rv r0, rv r1] [(.int (1 : Int32)), (.int n), (.ref r0)] _
  refine own_go (fun t₀ k₀ => XS.iadd X12.here hx rfl (Jvm.hb hby d9_42) rfl k₀) ?_
  show Gm p e below T12 m 43 #[rv r0, rv r1] [(.int (n + (1 : Int32))), (.ref r0)] _
  have f13 := (E_r0.keep Kc8)
  obtain ⟨T14, h14, X14, e14, W14, st14⟩ := putF X12 hx hZ hown (host := "") (Or.inl (hw _ (List.mem_of_getElem? (i := 27) rfl))) Via.refl e12 f9 f13 (Or.inl (hw _ (List.mem_of_getElem? (i := 28) rfl))) (hw _ (List.mem_of_getElem? (i := 1) rfl)) (ty := .int) (by decide) rfl rfl (g := (mkF m 43 #[rv r0, rv r1] [(.int (n + (1 : Int32))), (.ref r0)])) rfl rfl (Jvm.hb hby d9_43)
  have Fw14 := Fld.same W14 f9
  have N14 := Fr.snoc X14 N8 g_r0
  have Z14 : n0 ≤ h14.size := W14.size ▸ Z8
  have K14 : Keep h0 h14 [r0, c0] := Keep.wr K8 W14 (Or.inl (List.mem_of_getElem? (i := 0) rfl))
  refine own_go st14 ?_
  show Gm p e below T14 m 46 #[rv r0, rv r1] [] _
  refine own_go (fun t₀ k₀ => XS.aloadN X14.here hx rfl (Jvm.hb hby d9_46) rfl rfl k₀) ?_
  show Gm p e below T14 m 47 #[rv r0, rv r1] [(.ref r0)] _
  refine own_go (fun t₀ k₀ => XS.dup X14.here hx rfl (Jvm.hb hby d9_47) rfl rfl k₀) ?_
  show Gm p e below T14 m 48 #[rv r0, rv r1] [(.ref r0), (.ref r0)] _
  have f15 := (Fld.other W14 (F_nullable_r0.keep Kc8 (ninS ne_r0_c0 nin0)) (Or.inr (slot_ne (Or.inl (hw _ (List.mem_of_getElem? (i := 13) rfl))) (Or.inl (hw _ (List.mem_of_getElem? (i := 28) rfl))) (by decide) (t := .boolean) (t' := .int) (by decide) (by decide))))
  obtain ⟨T16, X16, e16, st16⟩ := getF X14 hx hZ hown (host := "") (Or.inl (hw _ (List.mem_of_getElem? (i := 12) rfl))) Via.refl e14 f15 (g := (mkF m 48 #[rv r0, rv r1] [(.ref r0), (.ref r0)])) rfl rfl (Jvm.hb hby d9_48)
  refine own_go st16 ?_
  show Gm p e below T16 m 51 #[rv r0, rv r1] [(.int b0), (.ref r0)] _
  refine own_go (fun t₀ k₀ => XS.aloadN X16.here hx rfl (Jvm.hb hby d9_51) rfl rfl k₀) ?_
  show Gm p e below T16 m 52 #[rv r0, rv r1] [(.ref r1), (.int b0), (.ref r0)] _
  have f17 := (Fld.other W14 (F_nullable_r1.keep Kc8 (ninS ne_r1_c0 nin0)) (Or.inl (Ne.symm ne_r0_r1)))
  obtain ⟨T18, X18, e18, st18⟩ := getF X16 hx hZ hown (host := "") (Or.inl (hw _ (List.mem_of_getElem? (i := 12) rfl))) Via.refl e16 f17 (g := (mkF m 52 #[rv r0, rv r1] [(.ref r1), (.int b0), (.ref r0)])) rfl rfl (Jvm.hb hby d9_52)
  refine own_go st18 ?_
  show Gm p e below T18 m 55 #[rv r0, rv r1] [(.int b1), (.int b0), (.ref r0)] _
  refine own_go (fun t₀ k₀ => XS.iand X18.here hx rfl (Jvm.hb hby d9_55) rfl k₀) ?_
  show Gm p e below T18 m 56 #[rv r0, rv r1] [(.int (b0 &&& b1)), (.ref r0)] _
  have f19 := (f13.wr W14)
  obtain ⟨T20, h20, X20, e20, W20, st20⟩ := putFN X18 hx hZ hown (hw _ (List.mem_of_getElem? (i := 12) rfl)) Via.refl e18 f15 f19 (Or.inl (hw _ (List.mem_of_getElem? (i := 13) rfl))) (hw _ (List.mem_of_getElem? (i := 1) rfl)) (ty := .boolean) (v' := (.int (b0 &&& b1))) (by decide) (by rcases hb0 with q | q <;> rcases hb1 with q' | q' <;> rw [q, q'] <;> rfl) (by rcases hb0 with q | q <;> rcases hb1 with q' | q' <;> rw [q, q'] <;> rfl) (g := (mkF m 56 #[rv r0, rv r1] [(.int (b0 &&& b1)), (.ref r0)])) rfl rfl (Jvm.hb hby d9_56)
  have Fw20 := Fld.same W20 f15
  have N20 := Fr.snoc X20 N14 g_r0
  have Z20 : n0 ≤ h20.size := W20.size ▸ Z14
  have K20 : Keep h0 h20 [r0, c0] := Keep.wr K14 W20 (Or.inl (List.mem_of_getElem? (i := 0) rfl))
  refine own_go st20 ?_
  show Gm p e below T20 m 59 #[rv r0, rv r1] [] _
  refine own_go (fun t₀ k₀ => XS.aloadN X20.here hx rfl (Jvm.hb hby d9_59) rfl rfl k₀) ?_
  show Gm p e below T20 m 60 #[rv r0, rv r1] [(.ref r0)] _
  refine own_go (fun t₀ k₀ => XS.aloadN X20.here hx rfl (Jvm.hb hby d9_60) rfl rfl k₀) ?_
  show Gm p e below T20 m 61 #[rv r0, rv r1] [(.ref r0), (.ref r0)] _
  have f21 := (Fld.other W20 (Fld.other W14 (F_height_r0.keep Kc8 (ninS ne_r0_c0 nin0)) (Or.inr (slot_ne (Or.inl (hw _ (List.mem_of_getElem? (i := 56) rfl))) (Or.inl (hw _ (List.mem_of_getElem? (i := 28) rfl))) (by decide) (t := .int) (t' := .int) (by decide) (by decide)))) (Or.inr (slot_ne (Or.inl (hw _ (List.mem_of_getElem? (i := 56) rfl))) (Or.inl (hw _ (List.mem_of_getElem? (i := 13) rfl))) (by decide) (t := .int) (t' := .boolean) (by decide) (by decide))))
  obtain ⟨T22, X22, e22, st22⟩ := getF X20 hx hZ hown (host := "") (Or.inl (hw _ (List.mem_of_getElem? (i := 55) rfl))) Via.refl e20 f21 (g := (mkF m 61 #[rv r0, rv r1] [(.ref r0), (.ref r0)])) rfl rfl (Jvm.hb hby d9_61)
  refine own_go st22 ?_
  show Gm p e below T22 m 64 #[rv r0, rv r1] [(.int (0 : Int32)), (.ref r0)] _
  refine own_go (fun t₀ k₀ => XS.aloadN X22.here hx rfl (Jvm.hb hby d9_64) rfl rfl k₀) ?_
  show Gm p e below T22 m 65 #[rv r0, rv r1] [(.ref r1), (.int (0 : Int32)), (.ref r0)] _
  have f23 := (Fld.other W20 (Fld.other W14 (F_height_r1.keep Kc8 (ninS ne_r1_c0 nin0)) (Or.inl (Ne.symm ne_r0_r1))) (Or.inl (Ne.symm ne_r0_r1)))
  obtain ⟨T24, X24, e24, st24⟩ := getF X22 hx hZ hown (host := "") (Or.inl (hw _ (List.mem_of_getElem? (i := 55) rfl))) Via.refl e22 f23 (g := (mkF m 65 #[rv r0, rv r1] [(.ref r1), (.int (0 : Int32)), (.ref r0)])) rfl rfl (Jvm.hb hby d9_65)
  refine own_go st24 ?_
  show Gm p e below T24 m 68 #[rv r0, rv r1] [(.int (0 : Int32)), (.int (0 : Int32)), (.ref r0)] _
  obtain ⟨_, _, ⟨T25, L25, k25, n25⟩, -, X25, ⟨Lc25, hQ25, l25, y25, z25⟩, st25⟩ := Jvm.LawKit.callS X24 hx (y := (⟨"java/lang/Math", "max", "(II)I"⟩ : MethodName)) hown (mvT hZ (hw _ (List.mem_of_getElem? (i := 57) rfl))) (mvT hZ (hw _ (List.mem_of_getElem? (i := 58) rfl))) (mvT hZ (hw _ (List.mem_of_getElem? (i := 18) rfl))) (mvT hZ (hw _ (List.mem_of_getElem? (i := 59) rfl))) (by decide) (backOf (W := 1) (rm10 l Z a0 hw [] (0 : Int32) (0 : Int32) h20 n0 Z20) hZ (hw _ (List.mem_of_getElem? (i := 59) rfl)) (hw _ (List.mem_of_getElem? (i := 18) rfl)) (by decide) (by decide)) (g := (mkF m 68 #[rv r0, rv r1] [(.int (0 : Int32)), (.int (0 : Int32)), (.ref r0)])) rfl (by rw [hml]; rfl) (argsL := [(.int (0 : Int32)), (.int (0 : Int32))]) (rest := [(.ref r0)]) (lenOf own_pd3 rfl) rfl (by show 2 * 0 + _ ≤ _; exact Nat.le_of_eq rfl) (Jvm.hb hby d9_68) (fun _ _ => ⟨rfl, e24, (by decide : 0 + 0 ≤ _), (by decide : 0 + 0 ≤ _)⟩)
  dsimp only [Pt.U, Pt.locs, Pt.cells, Pt.slots] at X25 l25 y25 z25 st25 hQ25
  subst l25 y25 z25
  obtain ⟨rfl, Nq25, eq25⟩ := hQ25
  have N25 := Fr.app N20 Nq25
  have e25 : T25.heap = h20 := eq25
  refine own_go st25 ?_
  show Gm p e below T25 m 71 #[rv r0, rv r1] [(.int (0 : Int32)), (.ref r0)] _
  have f26 := (f19.wr W20)
  obtain ⟨T27, h27, X27, e27, W27, st27⟩ := putF X25 hx hZ hown (host := "") (Or.inl (hw _ (List.mem_of_getElem? (i := 55) rfl))) Via.refl e25 f21 f26 (Or.inl (hw _ (List.mem_of_getElem? (i := 56) rfl))) (hw _ (List.mem_of_getElem? (i := 1) rfl)) (ty := .int) (by decide) rfl rfl (g := (mkF m 71 #[rv r0, rv r1] [(.int (0 : Int32)), (.ref r0)])) rfl rfl (Jvm.hb hby d9_71)
  have Fw27 := Fld.same W27 f21
  have N27 := Fr.snoc X27 N25 g_r0
  have Z27 : n0 ≤ h27.size := W27.size ▸ Z20
  have K27 : Keep h0 h27 [r0, c0] := Keep.wr K20 W27 (Or.inl (List.mem_of_getElem? (i := 0) rfl))
  refine own_go st27 ?_
  show Gm p e below T27 m 74 #[rv r0, rv r1] [] _
  refine own_go (fun t₀ k₀ => XS.aloadN X27.here hx rfl (Jvm.hb hby d9_74) rfl rfl k₀) ?_
  show Gm p e below T27 m 75 #[rv r0, rv r1] [(.ref r0)] _
  have f28 := (f26.wr W27)
  have f29 := (Fld.other W27 (Fld.other W20 (Fld.other W14 (F_code_r0.keep Kc8 (ninS ne_r0_c0 nin0)) (Or.inr (slot_ne (Or.inl (hw _ (List.mem_of_getElem? (i := 11) rfl))) (Or.inl (hw _ (List.mem_of_getElem? (i := 28) rfl))) (by decide) (t := (.array .int)) (t' := .int) (by decide) (by decide)))) (Or.inr (slot_ne (Or.inl (hw _ (List.mem_of_getElem? (i := 11) rfl))) (Or.inl (hw _ (List.mem_of_getElem? (i := 13) rfl))) (by decide) (t := (.array .int)) (t' := .boolean) (by decide) (by decide)))) (Or.inr (slot_ne (Or.inl (hw _ (List.mem_of_getElem? (i := 11) rfl))) (Or.inl (hw _ (List.mem_of_getElem? (i := 56) rfl))) (by decide) (t := (.array .int)) (t' := .int) (by decide) (by decide))))
  have f30 := (Fld.other W27 (Fld.other W20 Fw14 (Or.inr (slot_ne (Or.inl (hw _ (List.mem_of_getElem? (i := 28) rfl))) (Or.inl (hw _ (List.mem_of_getElem? (i := 13) rfl))) (by decide) (t := .int) (t' := .boolean) (by decide) (by decide)))) (Or.inr (slot_ne (Or.inl (hw _ (List.mem_of_getElem? (i := 28) rfl))) (Or.inl (hw _ (List.mem_of_getElem? (i := 56) rfl))) (by decide) (t := .int) (t' := .int) (by decide) (by decide))))
  have f31 := (Fld.other W27 Fw20 (Or.inr (slot_ne (Or.inl (hw _ (List.mem_of_getElem? (i := 13) rfl))) (Or.inl (hw _ (List.mem_of_getElem? (i := 56) rfl))) (by decide) (t := .boolean) (t' := .int) (by decide) (by decide))))
  have f32 := (((Ac8.other W14 (Ne.symm ne_r0_c0)).other W20 (Ne.symm ne_r0_c0)).other W27 (Ne.symm ne_r0_c0))
  exact own_retA X27 hx hlk rfl Bd.returns rfl (Jvm.hb hby d9_75) e27 ⟨rfl, N27, K27, f28, f29, f30, f31, Fw27, _, f32⟩ (by decide) (by decide)

theorem own_p (x : Int64) : ¬ (x &&& (2147483647 : Int64)) < 0 := by
  have h := c_maskL x 2147483647 31 (by decide) (by decide)
  rw [Int64.lt_iff_toInt_lt, h]
  have := Int.emod_nonneg x.toInt (by decide : ((2 ^ 31 : Nat) : Int) ≠ 0)
  show ¬ _ < (0 : Int)
  omega
theorem own_max (p q : Int64) (h1 : ¬ p < 0) (h2 : ¬ q < 0) : ¬ fMax p q < 0 := by
  unfold fMax; split <;> assumption
theorem own_un (a c : Int64) : a * c + (c + 2) = (a + 1) * c + 2 := by
  rw [Int64.add_mul, Int64.one_mul, Int64.add_assoc]
theorem own_cx (x M a : Int64) : x + (M - (x + a)) = M - a := by
  rw [← Int64.sub_sub, Int64.sub_eq_add_neg (M - x) a, ← Int64.add_assoc, Int64.add_comm x (M - x), Int64.sub_add_cancel, ← Int64.sub_eq_add_neg]
theorem own_bd (a m c : Int64) : a * c + (m - a) * (c + 1) = m * (c + 1) - a := by
  have h : a * (c + 1) = a * c + a := by rw [Int64.mul_add, Int64.mul_one]
  rw [Int64.sub_mul, h]
  exact own_cx _ _ _
theorem own_fin (a m : Int64) (n b : Int32) (cp ex : Int64) (hc : cp = (n + (if b = 0 then 0 else 3)).toInt64) (he : ex = if m < 0 then (a + 1) * cp + 2 else m * (cp + 1) - a) : fR a m n b = ex := by
  subst he
  unfold fR
  by_cases h : b = 0
  · rw [if_pos h] at hc ⊢
    by_cases g : m < 0
    · rw [if_pos g, if_pos g, ← hc]; exact own_un a cp
    · rw [if_neg g, if_neg g, ← hc]; exact own_bd a m cp
  · rw [if_neg h] at hc ⊢
    by_cases g : m < 0
    · rw [if_pos g, if_pos g, ← hc]; exact own_un a cp
    · rw [if_neg g, if_neg g, ← hc]; exact own_bd a m cp
theorem own_k1 (k : Int32) (h0 : ¬ k = 0) (h : 0 ≤ k.toInt) (h2 : k < 2) : k = 1 := by
  rw [Int32.lt_iff_toInt_lt] at h2
  have : k.toInt ≠ 0 := fun q => h0 (Int32.toInt_inj.mp q)
  apply Int32.toInt_inj.mp; show k.toInt = 1
  have : k.toInt < 2 := h2
  omega
theorem own_k2 (k : Int32) (h2 : ¬ k < 2) (h3 : k < 3) : k = 2 := by
  rw [Int32.lt_iff_toInt_lt] at h2 h3
  apply Int32.toInt_inj.mp; show k.toInt = 2
  have : k.toInt < 3 := h3
  have : ¬ k.toInt < 2 := h2
  omega
theorem own_k3 (k : Int32) (h3 : ¬ k < 3) (h : k.toInt < 4) : k = 3 := by
  rw [Int32.lt_iff_toInt_lt] at h3
  apply Int32.toInt_inj.mp; show k.toInt = 3
  have : ¬ k.toInt < 3 := h3
  omega
theorem own_kx (k : Int32) (h : ¬ k < 3) : ¬ k < 2 := fun q => by
  rw [Int32.lt_iff_toInt_lt] at h q
  have : ¬ k.toInt < 3 := h
  have : k.toInt < 2 := q
  omega
theorem own_kr (x : Int32) : 0 ≤ (x &&& (3 : Int32)).toInt ∧ (x &&& (3 : Int32)).toInt < 4 := by
  have h := c_mask x 3 2 (by decide) (by decide)
  rw [h]
  exact ⟨Int.emod_nonneg _ (by decide), Int.emod_lt_of_pos _ (by decide)⟩
theorem own_nz {b : Int32} {P : Prop} [Decidable P] (h : b = if P then (0 : Int32) else 1) (q : ¬ b = 0) : ¬ (b &&& (1 : Int32)) = 0 := by
  rw [h] at q ⊢; split at q
  · exact absurd rfl q
  · rename_i r; rw [if_neg r]; decide
theorem own_nz2 {b : Int32} {P : Prop} [Decidable P] (h : b = if P then (0 : Int32) else 1) (q : ¬ b = 0) : ¬ ((b &&& (1 : Int32)) &&& (1 : Int32)) = 0 := by
  rw [h] at q ⊢; split at q
  · exact absurd rfl q
  · rename_i r; rw [if_neg r]; decide
theorem own_pd4 : parseMethodDescriptor "(JJ)J" = some ⟨[.long, .long], some .long⟩ := by decide +kernel
theorem own_pd5 : parseMethodDescriptor "(IIZ)Lcom/example/data_in_bounds/datainbounds/metapath/RegexProgram$Fragment;" = some ⟨[.int, .int, .boolean], some (.object "com/example/data_in_bounds/datainbounds/metapath/RegexProgram$Fragment")⟩ := by decide +kernel
theorem own_pd6 : parseMethodDescriptor "(Lcom/example/data_in_bounds/datainbounds/metapath/RegexProgram$Fragment;)Lcom/example/data_in_bounds/datainbounds/metapath/RegexProgram$Fragment;" = some ⟨[(.object "com/example/data_in_bounds/datainbounds/metapath/RegexProgram$Fragment")], some (.object "com/example/data_in_bounds/datainbounds/metapath/RegexProgram$Fragment")⟩ := by decide +kernel
theorem own_pn_rm0 : plainName "com/example/data_in_bounds/datainbounds/metapath/FragmentRepeatedLengthPinLaw" = true := by first | (simp [plainName, overriddenIn]; done) | decide +kernel
theorem own_ef_rm0 (m : MethodId) (p0 : Int32) (p1 : Int32) (p2 : Int32) (p3 : Int32) : entryFrame m #[(.int p0), (.int p1), (.int p2), (.int p3)] maxLocals = mkF m 0 #[.val (.int p0), .val (.int p1), .val (.int p2), .val (.int p3), .unset, .unset, .unset, .unset, .unset, .unset, .unset, .unset, .unset, .unset, .unset, .unset, .unset, .unset, .unset, .unset] [] := by first | (simp [entryFrame, mkF, argsToLocals, Value.category, maxLocals]; done) | rfl
def Q0 (Z : State) (p0 : Int32) (p1 : Int32) (p2 : Int32) (p3 : Int32) (h0 : Heap) (n0 : Nat) (v : Option Value) (h : Heap) (L : List Loc) : Prop := v = some (.int 1) ∧ Fr n0 L
set_option maxRecDepth 65536 in
set_option maxHeartbeats 40000000 in
theorem rm0 (l : Launch) (Z : State) (a0 : Array Value) (hw : ∀ d ∈ tables_1, d.before a0 Z = true) (ws : List Jvm.Cond) (p0 : Int32) (p1 : Int32) (p2 : Int32) (p3 : Int32) (h0 : Heap) (n0 : Nat) (Z0 : n0 ≤ h0.size) :
    MetFree l x (head1 (Jvm.Cond.code x code maxLocals ret :: ws) room_1) (fun a U => a = #[(.int p0), (.int p1), (.int p2), (.int p3)] ∧ Z.Warmed39 U.vm ∧ U.heap = h0) (fun _ _ _ _ _ => True) (fun _ U o U' => ∃ v L, o = .returned v ∧ Q0 Z p0 p1 p2 p3 h0 n0 v U'.heap L ∧ FrameEnd U o U' L room_1.cells room_1.slots) := by
  refine MetFree.of_bodySF (plainFor_of_name own_pn_rm0) hisR ?_
  intro p e s m args below meth cO s₁ Bd hml0 hP hK
  obtain ⟨rfl, hZ, hh⟩ := hP
  have hx := Bd.exec
  have hby := Bd.bytes
  have hml : cO.maxLocals = 20 := hml0
  have hown : s.vm.findClass "com/example/data_in_bounds/datainbounds/metapath/FragmentRepeatedLengthPinLaw" = some m.cls := findClass_of_methodNamed Bd.named
  have hnm := (name_of_methodNamed Bd.named Bd.method).1
  have hlk : meth.locks = false := BodyLoose.notSynchronized Bd
  have X0 : Stand p l e room_1 s m #[(.int p0), (.int p1), (.int p2), (.int p3)] below meth cO s₁ [] 0 0 := Stand.of_body Bd
  have e0 : s₁.heap = h0 := by rw [← hh, Bd.state]; rfl
  have N0 := Fr.nil n0
  refine own_in (own_ef_rm0 m p0 p1 p2 p3) ?_
  show Gm p e below s₁ m 0 #[iv p0, iv p1, iv p2, iv p3, .unset, .unset, .unset, .unset, .unset, .unset, .unset, .unset, .unset, .unset, .unset, .unset, .unset, .unset, .unset, .unset] [] _
  refine own_go (fun t₀ k₀ => XS.iloadN X0.here hx rfl (Jvm.hb hby at_0) rfl k₀) ?_
  show Gm p e below s₁ m 1 #[iv p0, iv p1, iv p2, iv p3, .unset, .unset, .unset, .unset, .unset, .unset, .unset, .unset, .unset, .unset, .unset, .unset, .unset, .unset, .unset, .unset] [(.int p0)] _
  refine own_go (fun t₀ k₀ => XS.iconst X0.here hx rfl (Jvm.hb hby at_1) k₀) ?_
  show Gm p e below s₁ m 2 #[iv p0, iv p1, iv p2, iv p3, .unset, .unset, .unset, .unset, .unset, .unset, .unset, .unset, .unset, .unset, .unset, .unset, .unset, .unset, .unset, .unset] [(.int (3 : Int32)), (.int p0)] _
  refine own_go (fun t₀ k₀ => XS.iand X0.here hx rfl (Jvm.hb hby at_2) rfl k₀) ?_
  show Gm p e below s₁ m 3 #[iv p0, iv p1, iv p2, iv p3, .unset, .unset, .unset, .unset, .unset, .unset, .unset, .unset, .unset, .unset, .unset, .unset, .unset, .unset, .unset, .unset] [(.int (p0 &&& (3 : Int32)))] _
  refine own_go (fun t₀ k₀ => XS.istore X0.here hx rfl (Jvm.hb hby at_3) rfl (l' := #[iv p0, iv p1, iv p2, iv p3, iv (p0 &&& (3 : Int32)), .unset, .unset, .unset, .unset, .unset, .unset, .unset, .unset, .unset, .unset, .unset, .unset, .unset, .unset, .unset]) rfl k₀) ?_
  show Gm p e below s₁ m 5 #[iv p0, iv p1, iv p2, iv p3, iv (p0 &&& (3 : Int32)), .unset, .unset, .unset, .unset, .unset, .unset, .unset, .unset, .unset, .unset, .unset, .unset, .unset, .unset, .unset] [] _
  obtain ⟨k, h_k⟩ : ∃ z : Int32, z = (p0 &&& (3 : Int32)) := ⟨_, rfl⟩
  rw [← h_k]
  show Gm p e below s₁ m 5 #[iv p0, iv p1, iv p2, iv p3, iv k, .unset, .unset, .unset, .unset, .unset, .unset, .unset, .unset, .unset, .unset, .unset, .unset, .unset, .unset, .unset] [] _
  refine own_go (fun t₀ k₀ => XS.iloadN X0.here hx rfl (Jvm.hb hby at_5) rfl k₀) ?_
  show Gm p e below s₁ m 6 #[iv p0, iv p1, iv p2, iv p3, iv k, .unset, .unset, .unset, .unset, .unset, .unset, .unset, .unset, .unset, .unset, .unset, .unset, .unset, .unset, .unset] [(.int p0)] _
  refine own_go (fun t₀ k₀ => XS.iconst X0.here hx rfl (Jvm.hb hby at_6) k₀) ?_
  show Gm p e below s₁ m 7 #[iv p0, iv p1, iv p2, iv p3, iv k, .unset, .unset, .unset, .unset, .unset, .unset, .unset, .unset, .unset, .unset, .unset, .unset, .unset, .unset, .unset] [(.int (4 : Int32)), (.int p0)] _
  refine own_go (fun t₀ k₀ => XS.iand X0.here hx rfl (Jvm.hb hby at_7) rfl k₀) ?_
  show Gm p e below s₁ m 8 #[iv p0, iv p1, iv p2, iv p3, iv k, .unset, .unset, .unset, .unset, .unset, .unset, .unset, .unset, .unset, .unset, .unset, .unset, .unset, .unset, .unset] [(.int (p0 &&& (4 : Int32)))] _
  obtain ⟨b2, hb2, k2⟩ : ∃ z : Int32, z = (if (p0 &&& (4 : Int32)) = (0 : Int32) then (0 : Int32) else (1 : Int32)) ∧ ∀ t, Steps p.tables e below (s₁.setTop (mkF m 16 #[iv p0, iv p1, iv p2, iv p3, iv k, .unset, .unset, .unset, .unset, .unset, .unset, .unset, .unset, .unset, .unset, .unset, .unset, .unset, .unset, .unset] [(.int z)])) t → Steps p.tables e below (s₁.setTop (mkF m 8 #[iv p0, iv p1, iv p2, iv p3, iv k, .unset, .unset, .unset, .unset, .unset, .unset, .unset, .unset, .unset, .unset, .unset, .unset, .unset, .unset, .unset] [(.int (p0 &&& (4 : Int32)))])) t := by
    by_cases hq : (p0 &&& (4 : Int32)) = (0 : Int32)
    · refine ⟨(0 : Int32), by rw [if_pos hq], fun t₀ k₀ => ?_⟩
      refine XS.ifYes X0.here hx rfl (pc0 := 8) (pc' := 15) rfl (Jvm.hb hby at_8) rfl (XT.i0_eq_t hq) (by decide) (by decide) ?_
      refine XS.iconst X0.here hx rfl (Jvm.hb hby at_15) ?_
      exact k₀
    · refine ⟨(1 : Int32), by rw [if_neg hq], fun t₀ k₀ => ?_⟩
      refine XS.ifNo X0.here hx rfl (Jvm.hb hby at_8) rfl (XT.i0_eq_f hq) ?_
      refine XS.iconst X0.here hx rfl (Jvm.hb hby at_11) ?_
      refine XS.goto X0.here hx rfl (pc0 := 12) (pc' := 16) rfl (Jvm.hb hby at_12) (by decide) (by decide) ?_
      exact k₀
  refine own_go k2 ?_
  show Gm p e below s₁ m 16 #[iv p0, iv p1, iv p2, iv p3, iv k, .unset, .unset, .unset, .unset, .unset, .unset, .unset, .unset, .unset, .unset, .unset, .unset, .unset, .unset, .unset] [(.int b2)] _
  refine own_go (fun t₀ k₀ => XS.istore X0.here hx rfl (Jvm.hb hby at_16) rfl (l' := #[iv p0, iv p1, iv p2, iv p3, iv k, iv b2, .unset, .unset, .unset, .unset, .unset, .unset, .unset, .unset, .unset, .unset, .unset, .unset, .unset, .unset]) rfl k₀) ?_
  show Gm p e below s₁ m 18 #[iv p0, iv p1, iv p2, iv p3, iv k, iv b2, .unset, .unset, .unset, .unset, .unset, .unset, .unset, .unset, .unset, .unset, .unset, .unset, .unset, .unset] [] _
  refine own_go (fun t₀ k₀ => XS.iload X0.here hx rfl (Jvm.hb hby at_18) rfl k₀) ?_
  show Gm p e below s₁ m 20 #[iv p0, iv p1, iv p2, iv p3, iv k, iv b2, .unset, .unset, .unset, .unset, .unset, .unset, .unset, .unset, .unset, .unset, .unset, .unset, .unset, .unset] [(.int k)] _
  by_cases c3 : k = (0 : Int32)
  · have hfork := trivial
    refine own_go (fun t₀ k₀ => XS.ifNo X0.here hx rfl (Jvm.hb hby at_20) rfl (XT.i0_ne_f c3) k₀) ?_
    show Gm p e below s₁ m 23 #[iv p0, iv p1, iv p2, iv p3, iv k, iv b2, .unset, .unset, .unset, .unset, .unset, .unset, .unset, .unset, .unset, .unset, .unset, .unset, .unset, .unset] [] _
    obtain ⟨T4, h4, X4, e4, E4, A4, D4, -, st4⟩ := newO X0 hx hZ hown (hw _ (List.mem_of_getElem? (i := 0) rfl)) (hw _ (List.mem_of_getElem? (i := 1) rfl)) (hw _ (List.mem_of_getElem? (i := 2) rfl)) e0 (g := (mkF m 23 #[iv p0, iv p1, iv p2, iv p3, iv k, iv b2, .unset, .unset, .unset, .unset, .unset, .unset, .unset, .unset, .unset, .unset, .unset, .unset, .unset, .unset] [])) rfl (Jvm.hb hby at_23) (by decide) (by decide)
    obtain ⟨b4, g4⟩ : ∃ z, z = h0.size := ⟨_, rfl⟩
    rw [← g4] at A4 D4 st4
    have g_b4 : n0 ≤ b4 := Nat.le_trans Z0 (Nat.le_of_eq g4.symm)
    have Z4 : n0 ≤ h4.size := Nat.le_trans Z0 E4.1
    have F_code_b4 : Fld Z h4 b4 "com/example/data_in_bounds/datainbounds/metapath/RegexProgram$Fragment" "code" "[I" .null := D4 (Or.inl (hw _ (List.mem_of_getElem? (i := 11) rfl))) (ty := (.array .int)) (by decide)
    have F_nullable_b4 : Fld Z h4 b4 "com/example/data_in_bounds/datainbounds/metapath/RegexProgram$Fragment" "nullable" "Z" (.int (0 : Int32)) := D4 (Or.inl (hw _ (List.mem_of_getElem? (i := 13) rfl))) (ty := .boolean) (by decide)
    have F_length_b4 : Fld Z h4 b4 "com/example/data_in_bounds/datainbounds/metapath/RegexProgram$Fragment" "length" "I" (.int (0 : Int32)) := D4 (Or.inl (hw _ (List.mem_of_getElem? (i := 28) rfl))) (ty := .int) (by decide)
    have F_height_b4 : Fld Z h4 b4 "com/example/data_in_bounds/datainbounds/metapath/RegexProgram$Fragment" "height" "I" (.int (0 : Int32)) := D4 (Or.inl (hw _ (List.mem_of_getElem? (i := 56) rfl))) (ty := .int) (by decide)
    refine own_go st4 ?_
    show Gm p e below T4 m 26 #[iv p0, iv p1, iv p2, iv p3, iv k, iv b2, .unset, .unset, .unset, .unset, .unset, .unset, .unset, .unset, .unset, .unset, .unset, .unset, .unset, .unset] [(.ref b4)] _
    refine own_go (fun t₀ k₀ => XS.dup X4.here hx rfl (Jvm.hb hby at_26) rfl rfl k₀) ?_
    show Gm p e below T4 m 27 #[iv p0, iv p1, iv p2, iv p3, iv k, iv b2, .unset, .unset, .unset, .unset, .unset, .unset, .unset, .unset, .unset, .unset, .unset, .unset, .unset, .unset] [(.ref b4), (.ref b4)] _
    obtain ⟨_, _, ⟨T5, L5, k5, n5⟩, -, X5, ⟨Lc5, hQ5, l5, y5, z5⟩, st5⟩ := X4.specialBack hx (y := (⟨"com/example/data_in_bounds/datainbounds/metapath/RegexProgram$Fragment", "<init>", "()V"⟩ : MethodName)) rfl hown (mvT hZ (hw _ (List.mem_of_getElem? (i := 3) rfl))) (mvT hZ (hw _ (List.mem_of_getElem? (i := 4) rfl))) (mvT hZ (hw _ (List.mem_of_getElem? (i := 5) rfl))) (by decide) (backOf (W := 1) (rm1 l Z a0 hw [] b4 h4 n0 Z4 A4 F_code_b4 F_length_b4 F_nullable_b4 F_height_b4 g_b4) hZ (hw _ (List.mem_of_getElem? (i := 5) rfl)) (hw _ (List.mem_of_getElem? (i := 2) rfl)) (by decide) (by decide)) (g := (mkF m 27 #[iv p0, iv p1, iv p2, iv p3, iv k, iv b2, .unset, .unset, .unset, .unset, .unset, .unset, .unset, .unset, .unset, .unset, .unset, .unset, .unset, .unset] [(.ref b4), (.ref b4)])) rfl (by rw [hml]; rfl) (Steps.refl _) (a := b4) (argsL := []) (rest := [(.ref b4)]) (lenOf own_pd1 rfl) rfl (by show 2 * 0 + _ ≤ _; exact Nat.le_of_eq rfl) (Jvm.hb hby at_27) (fun _ _ => ⟨rfl, e4, (by decide : 1 + 1 ≤ _), (by decide : 4 + 8 ≤ _)⟩)
    dsimp only [Pt.U, Pt.locs, Pt.cells, Pt.slots] at X5 l5 y5 z5 st5 hQ5
    subst l5 y5 z5
    obtain ⟨c5, rfl, Nq5, Kc5, Ec5, hsz5, Fcode5, Ac5, Flen5, Fnul5, Fhei5⟩ := hQ5
    have N5 := Fr.app N0 Nq5
    refine own_go (fun t k => st5.trans k) ?_
    have ne_b4_c5 : b4 ≠ c5 := Nat.ne_of_lt (Nat.lt_of_lt_of_le A4.lt hsz5)
    have Z5 : n0 ≤ T5.heap.size := Nat.le_trans Z4 Kc5.1
    have g_c5 : n0 ≤ c5 := Nat.le_trans Z4 hsz5
    show Gm p e below T5 m 30 #[iv p0, iv p1, iv p2, iv p3, iv k, iv b2, .unset, .unset, .unset, .unset, .unset, .unset, .unset, .unset, .unset, .unset, .unset, .unset, .unset, .unset] [(.ref b4)] _
    refine own_go (fun t₀ k₀ => XS.astore X5.here hx rfl (Jvm.hb hby at_30) rfl rfl (l' := #[iv p0, iv p1, iv p2, iv p3, iv k, iv b2, rv b4, .unset, .unset, .unset, .unset, .unset, .unset, .unset, .unset, .unset, .unset, .unset, .unset, .unset]) rfl k₀) ?_
    show Gm p e below T5 m 32 #[iv p0, iv p1, iv p2, iv p3, iv k, iv b2, rv b4, .unset, .unset, .unset, .unset, .unset, .unset, .unset, .unset, .unset, .unset, .unset, .unset, .unset] [] _
    refine own_go (fun t₀ k₀ => XS.goto X5.here hx rfl (pc0 := 32) (pc' := 80) rfl (Jvm.hb hby at_32) (by decide) (by decide) k₀) ?_
    show Gm p e below T5 m 80 #[iv p0, iv p1, iv p2, iv p3, iv k, iv b2, rv b4, .unset, .unset, .unset, .unset, .unset, .unset, .unset, .unset, .unset, .unset, .unset, .unset, .unset] [] _
    refine own_go (fun t₀ k₀ => XS.iload X5.here hx rfl (Jvm.hb hby at_80) rfl k₀) ?_
    show Gm p e below T5 m 82 #[iv p0, iv p1, iv p2, iv p3, iv k, iv b2, rv b4, .unset, .unset, .unset, .unset, .unset, .unset, .unset, .unset, .unset, .unset, .unset, .unset, .unset] [(.int k)] _
    refine own_go (fun t₀ k₀ => XS.ifNo X5.here hx rfl (Jvm.hb hby at_82) rfl (XT.i0_ne_f c3) k₀) ?_
    show Gm p e below T5 m 85 #[iv p0, iv p1, iv p2, iv p3, iv k, iv b2, rv b4, .unset, .unset, .unset, .unset, .unset, .unset, .unset, .unset, .unset, .unset, .unset, .unset, .unset] [] _
    refine own_go (fun t₀ k₀ => X5.ldc2J hx hown (mvT hZ (hw _ (List.mem_of_getElem? (i := 14) rfl))) rfl (Jvm.hb hby at_85) k₀) ?_
    show Gm p e below T5 m 88 #[iv p0, iv p1, iv p2, iv p3, iv k, iv b2, rv b4, .unset, .unset, .unset, .unset, .unset, .unset, .unset, .unset, .unset, .unset, .unset, .unset, .unset] [(.long (3 : Int64))] _
    refine own_go (fun t₀ k₀ => XS.goto X5.here hx rfl (pc0 := 88) (pc' := 107) rfl (Jvm.hb hby at_88) (by decide) (by decide) k₀) ?_
    show Gm p e below T5 m 107 #[iv p0, iv p1, iv p2, iv p3, iv k, iv b2, rv b4, .unset, .unset, .unset, .unset, .unset, .unset, .unset, .unset, .unset, .unset, .unset, .unset, .unset] [(.long (3 : Int64))] _
    refine own_go (fun t₀ k₀ => XS.lstore X5.here hx rfl (Jvm.hb hby at_107) rfl (l' := #[iv p0, iv p1, iv p2, iv p3, iv k, iv b2, rv b4, lv (3 : Int64), .second, .unset, .unset, .unset, .unset, .unset, .unset, .unset, .unset, .unset, .unset, .unset]) rfl k₀) ?_
    show Gm p e below T5 m 109 #[iv p0, iv p1, iv p2, iv p3, iv k, iv b2, rv b4, lv (3 : Int64), .second, .unset, .unset, .unset, .unset, .unset, .unset, .unset, .unset, .unset, .unset, .unset] [] _
    refine own_go (fun t₀ k₀ => XS.iloadN X5.here hx rfl (Jvm.hb hby at_109) rfl k₀) ?_
    show Gm p e below T5 m 110 #[iv p0, iv p1, iv p2, iv p3, iv k, iv b2, rv b4, lv (3 : Int64), .second, .unset, .unset, .unset, .unset, .unset, .unset, .unset, .unset, .unset, .unset, .unset] [(.int p1)] _
    refine own_go (fun t₀ k₀ => XS.i2l X5.here hx rfl (Jvm.hb hby at_110) rfl k₀) ?_
    show Gm p e below T5 m 111 #[iv p0, iv p1, iv p2, iv p3, iv k, iv b2, rv b4, lv (3 : Int64), .second, .unset, .unset, .unset, .unset, .unset, .unset, .unset, .unset, .unset, .unset, .unset] [(.long (p1.toInt64))] _
    refine own_go (fun t₀ k₀ => X5.ldc2J hx hown (mvT hZ (hw _ (List.mem_of_getElem? (i := 15) rfl))) rfl (Jvm.hb hby at_111) k₀) ?_
    show Gm p e below T5 m 114 #[iv p0, iv p1, iv p2, iv p3, iv k, iv b2, rv b4, lv (3 : Int64), .second, .unset, .unset, .unset, .unset, .unset, .unset, .unset, .unset, .unset, .unset, .unset] [(.long (2147483647 : Int64)), (.long (p1.toInt64))] _
    refine own_go (fun t₀ k₀ => XS.land X5.here hx rfl (Jvm.hb hby at_114) rfl k₀) ?_
    show Gm p e below T5 m 115 #[iv p0, iv p1, iv p2, iv p3, iv k, iv b2, rv b4, lv (3 : Int64), .second, .unset, .unset, .unset, .unset, .unset, .unset, .unset, .unset, .unset, .unset, .unset] [(.long ((p1.toInt64) &&& (2147483647 : Int64)))] _
    refine own_go (fun t₀ k₀ => XS.lstore X5.here hx rfl (Jvm.hb hby at_115) rfl (l' := #[iv p0, iv p1, iv p2, iv p3, iv k, iv b2, rv b4, lv (3 : Int64), .second, lv ((p1.toInt64) &&& (2147483647 : Int64)), .second, .unset, .unset, .unset, .unset, .unset, .unset, .unset, .unset, .unset]) rfl k₀) ?_
    show Gm p e below T5 m 117 #[iv p0, iv p1, iv p2, iv p3, iv k, iv b2, rv b4, lv (3 : Int64), .second, lv ((p1.toInt64) &&& (2147483647 : Int64)), .second, .unset, .unset, .unset, .unset, .unset, .unset, .unset, .unset, .unset] [] _
    refine own_go (fun t₀ k₀ => XS.iloadN X5.here hx rfl (Jvm.hb hby at_117) rfl k₀) ?_
    show Gm p e below T5 m 118 #[iv p0, iv p1, iv p2, iv p3, iv k, iv b2, rv b4, lv (3 : Int64), .second, lv ((p1.toInt64) &&& (2147483647 : Int64)), .second, .unset, .unset, .unset, .unset, .unset, .unset, .unset, .unset, .unset] [(.int p2)] _
    refine own_go (fun t₀ k₀ => XS.i2l X5.here hx rfl (Jvm.hb hby at_118) rfl k₀) ?_
    show Gm p e below T5 m 119 #[iv p0, iv p1, iv p2, iv p3, iv k, iv b2, rv b4, lv (3 : Int64), .second, lv ((p1.toInt64) &&& (2147483647 : Int64)), .second, .unset, .unset, .unset, .unset, .unset, .unset, .unset, .unset, .unset] [(.long (p2.toInt64))] _
    refine own_go (fun t₀ k₀ => X5.ldc2J hx hown (mvT hZ (hw _ (List.mem_of_getElem? (i := 15) rfl))) rfl (Jvm.hb hby at_119) k₀) ?_
    show Gm p e below T5 m 122 #[iv p0, iv p1, iv p2, iv p3, iv k, iv b2, rv b4, lv (3 : Int64), .second, lv ((p1.toInt64) &&& (2147483647 : Int64)), .second, .unset, .unset, .unset, .unset, .unset, .unset, .unset, .unset, .unset] [(.long (2147483647 : Int64)), (.long (p2.toInt64))] _
    refine own_go (fun t₀ k₀ => XS.land X5.here hx rfl (Jvm.hb hby at_122) rfl k₀) ?_
    show Gm p e below T5 m 123 #[iv p0, iv p1, iv p2, iv p3, iv k, iv b2, rv b4, lv (3 : Int64), .second, lv ((p1.toInt64) &&& (2147483647 : Int64)), .second, .unset, .unset, .unset, .unset, .unset, .unset, .unset, .unset, .unset] [(.long ((p2.toInt64) &&& (2147483647 : Int64)))] _
    refine own_go (fun t₀ k₀ => XS.lstore X5.here hx rfl (Jvm.hb hby at_123) rfl (l' := #[iv p0, iv p1, iv p2, iv p3, iv k, iv b2, rv b4, lv (3 : Int64), .second, lv ((p1.toInt64) &&& (2147483647 : Int64)), .second, lv ((p2.toInt64) &&& (2147483647 : Int64)), .second, .unset, .unset, .unset, .unset, .unset, .unset, .unset]) rfl k₀) ?_
    have hp := own_p p1.toInt64
    have hq := own_p p2.toInt64
    show Gm p e below T5 m 125 #[iv p0, iv p1, iv p2, iv p3, iv k, iv b2, rv b4, lv (3 : Int64), .second, lv ((p1.toInt64) &&& (2147483647 : Int64)), .second, lv ((p2.toInt64) &&& (2147483647 : Int64)), .second, .unset, .unset, .unset, .unset, .unset, .unset, .unset] [] _
    refine own_go (fun t₀ k₀ => XS.lload X5.here hx rfl (Jvm.hb hby at_125) rfl k₀) ?_
    show Gm p e below T5 m 127 #[iv p0, iv p1, iv p2, iv p3, iv k, iv b2, rv b4, lv (3 : Int64), .second, lv ((p1.toInt64) &&& (2147483647 : Int64)), .second, lv ((p2.toInt64) &&& (2147483647 : Int64)), .second, .unset, .unset, .unset, .unset, .unset, .unset, .unset] [(.long ((p1.toInt64) &&& (2147483647 : Int64)))] _
    refine own_go (fun t₀ k₀ => XS.lload X5.here hx rfl (Jvm.hb hby at_127) rfl k₀) ?_
    show Gm p e below T5 m 129 #[iv p0, iv p1, iv p2, iv p3, iv k, iv b2, rv b4, lv (3 : Int64), .second, lv ((p1.toInt64) &&& (2147483647 : Int64)), .second, lv ((p2.toInt64) &&& (2147483647 : Int64)), .second, .unset, .unset, .unset, .unset, .unset, .unset, .unset] [(.long ((p2.toInt64) &&& (2147483647 : Int64))), (.long ((p1.toInt64) &&& (2147483647 : Int64)))] _
    obtain ⟨_, _, ⟨T6, L6, k6, n6⟩, -, X6, ⟨Lc6, hQ6, l6, y6, z6⟩, st6⟩ := Jvm.LawKit.callS X5 hx (y := (⟨"java/lang/Math", "min", "(JJ)J"⟩ : MethodName)) hown (mvT hZ (hw _ (List.mem_of_getElem? (i := 16) rfl))) (mvT hZ (hw _ (List.mem_of_getElem? (i := 17) rfl))) (mvT hZ (hw _ (List.mem_of_getElem? (i := 18) rfl))) (mvT hZ (hw _ (List.mem_of_getElem? (i := 19) rfl))) (by decide) (backOf (W := 0) (rm3 l Z a0 hw [] ((p1.toInt64) &&& (2147483647 : Int64)) ((p2.toInt64) &&& (2147483647 : Int64)) T5.heap n0 Z5) hZ (hw _ (List.mem_of_getElem? (i := 19) rfl)) (hw _ (List.mem_of_getElem? (i := 18) rfl)) (by decide) (by decide)) (g := (mkF m 129 #[iv p0, iv p1, iv p2, iv p3, iv k, iv b2, rv b4, lv (3 : Int64), .second, lv ((p1.toInt64) &&& (2147483647 : Int64)), .second, lv ((p2.toInt64) &&& (2147483647 : Int64)), .second, .unset, .unset, .unset, .unset, .unset, .unset, .unset] [(.long ((p2.toInt64) &&& (2147483647 : Int64))), (.long ((p1.toInt64) &&& (2147483647 : Int64)))])) rfl (by rw [hml]; rfl) (argsL := [(.long ((p1.toInt64) &&& (2147483647 : Int64))), (.long ((p2.toInt64) &&& (2147483647 : Int64)))]) (rest := []) (lenOf own_pd4 rfl) rfl (by show 2 * 0 + _ ≤ _; exact Nat.le_of_eq rfl) (Jvm.hb hby at_129) (fun _ _ => ⟨rfl, rfl, (by decide : 2 + 0 ≤ _), (by decide : 12 + 0 ≤ _)⟩)
    dsimp only [Pt.U, Pt.locs, Pt.cells, Pt.slots] at X6 l6 y6 z6 st6 hQ6
    subst l6 y6 z6
    obtain ⟨rfl, Nq6, eq6⟩ := hQ6
    have N6 := Fr.app N5 Nq6
    have e6 : T6.heap = T5.heap := eq6
    refine own_go st6 ?_
    show Gm p e below T6 m 132 #[iv p0, iv p1, iv p2, iv p3, iv k, iv b2, rv b4, lv (3 : Int64), .second, lv ((p1.toInt64) &&& (2147483647 : Int64)), .second, lv ((p2.toInt64) &&& (2147483647 : Int64)), .second, .unset, .unset, .unset, .unset, .unset, .unset, .unset] [(.long (fMin ((p1.toInt64) &&& (2147483647 : Int64)) ((p2.toInt64) &&& (2147483647 : Int64))))] _
    refine own_go (fun t₀ k₀ => XS.lstore X6.here hx rfl (Jvm.hb hby at_132) rfl (l' := #[iv p0, iv p1, iv p2, iv p3, iv k, iv b2, rv b4, lv (3 : Int64), .second, lv ((p1.toInt64) &&& (2147483647 : Int64)), .second, lv ((p2.toInt64) &&& (2147483647 : Int64)), .second, lv (fMin ((p1.toInt64) &&& (2147483647 : Int64)) ((p2.toInt64) &&& (2147483647 : Int64))), .second, .unset, .unset, .unset, .unset, .unset]) rfl k₀) ?_
    show Gm p e below T6 m 134 #[iv p0, iv p1, iv p2, iv p3, iv k, iv b2, rv b4, lv (3 : Int64), .second, lv ((p1.toInt64) &&& (2147483647 : Int64)), .second, lv ((p2.toInt64) &&& (2147483647 : Int64)), .second, lv (fMin ((p1.toInt64) &&& (2147483647 : Int64)) ((p2.toInt64) &&& (2147483647 : Int64))), .second, .unset, .unset, .unset, .unset, .unset] [] _
    refine own_go (fun t₀ k₀ => XS.iloadN X6.here hx rfl (Jvm.hb hby at_134) rfl k₀) ?_
    show Gm p e below T6 m 135 #[iv p0, iv p1, iv p2, iv p3, iv k, iv b2, rv b4, lv (3 : Int64), .second, lv ((p1.toInt64) &&& (2147483647 : Int64)), .second, lv ((p2.toInt64) &&& (2147483647 : Int64)), .second, lv (fMin ((p1.toInt64) &&& (2147483647 : Int64)) ((p2.toInt64) &&& (2147483647 : Int64))), .second, .unset, .unset, .unset, .unset, .unset] [(.int p3)] _
    refine own_go (fun t₀ k₀ => XS.iconst X6.here hx rfl (Jvm.hb hby at_135) k₀) ?_
    show Gm p e below T6 m 136 #[iv p0, iv p1, iv p2, iv p3, iv k, iv b2, rv b4, lv (3 : Int64), .second, lv ((p1.toInt64) &&& (2147483647 : Int64)), .second, lv ((p2.toInt64) &&& (2147483647 : Int64)), .second, lv (fMin ((p1.toInt64) &&& (2147483647 : Int64)) ((p2.toInt64) &&& (2147483647 : Int64))), .second, .unset, .unset, .unset, .unset, .unset] [(.int (1 : Int32)), (.int p3)] _
    refine own_go (fun t₀ k₀ => XS.iand X6.here hx rfl (Jvm.hb hby at_136) rfl k₀) ?_
    show Gm p e below T6 m 137 #[iv p0, iv p1, iv p2, iv p3, iv k, iv b2, rv b4, lv (3 : Int64), .second, lv ((p1.toInt64) &&& (2147483647 : Int64)), .second, lv ((p2.toInt64) &&& (2147483647 : Int64)), .second, lv (fMin ((p1.toInt64) &&& (2147483647 : Int64)) ((p2.toInt64) &&& (2147483647 : Int64))), .second, .unset, .unset, .unset, .unset, .unset] [(.int (p3 &&& (1 : Int32)))] _
    obtain ⟨b7, hb7, k7⟩ : ∃ z : Int32, z = (if (p3 &&& (1 : Int32)) = (0 : Int32) then (0 : Int32) else (1 : Int32)) ∧ ∀ t, Steps p.tables e below (T6.setTop (mkF m 145 #[iv p0, iv p1, iv p2, iv p3, iv k, iv b2, rv b4, lv (3 : Int64), .second, lv ((p1.toInt64) &&& (2147483647 : Int64)), .second, lv ((p2.toInt64) &&& (2147483647 : Int64)), .second, lv (fMin ((p1.toInt64) &&& (2147483647 : Int64)) ((p2.toInt64) &&& (2147483647 : Int64))), .second, .unset, .unset, .unset, .unset, .unset] [(.int z)])) t → Steps p.tables e below (T6.setTop (mkF m 137 #[iv p0, iv p1, iv p2, iv p3, iv k, iv b2, rv b4, lv (3 : Int64), .second, lv ((p1.toInt64) &&& (2147483647 : Int64)), .second, lv ((p2.toInt64) &&& (2147483647 : Int64)), .second, lv (fMin ((p1.toInt64) &&& (2147483647 : Int64)) ((p2.toInt64) &&& (2147483647 : Int64))), .second, .unset, .unset, .unset, .unset, .unset] [(.int (p3 &&& (1 : Int32)))])) t := by
      by_cases hq : (p3 &&& (1 : Int32)) = (0 : Int32)
      · refine ⟨(0 : Int32), by rw [if_pos hq], fun t₀ k₀ => ?_⟩
        refine XS.ifYes X6.here hx rfl (pc0 := 137) (pc' := 144) rfl (Jvm.hb hby at_137) rfl (XT.i0_eq_t hq) (by decide) (by decide) ?_
        refine XS.iconst X6.here hx rfl (Jvm.hb hby at_144) ?_
        exact k₀
      · refine ⟨(1 : Int32), by rw [if_neg hq], fun t₀ k₀ => ?_⟩
        refine XS.ifNo X6.here hx rfl (Jvm.hb hby at_137) rfl (XT.i0_eq_f hq) ?_
        refine XS.iconst X6.here hx rfl (Jvm.hb hby at_140) ?_
        refine XS.goto X6.here hx rfl (pc0 := 141) (pc' := 145) rfl (Jvm.hb hby at_141) (by decide) (by decide) ?_
        exact k₀
    refine own_go k7 ?_
    show Gm p e below T6 m 145 #[iv p0, iv p1, iv p2, iv p3, iv k, iv b2, rv b4, lv (3 : Int64), .second, lv ((p1.toInt64) &&& (2147483647 : Int64)), .second, lv ((p2.toInt64) &&& (2147483647 : Int64)), .second, lv (fMin ((p1.toInt64) &&& (2147483647 : Int64)) ((p2.toInt64) &&& (2147483647 : Int64))), .second, .unset, .unset, .unset, .unset, .unset] [(.int b7)] _
    refine own_go (fun t₀ k₀ => XS.istore X6.here hx rfl (Jvm.hb hby at_145) rfl (l' := #[iv p0, iv p1, iv p2, iv p3, iv k, iv b2, rv b4, lv (3 : Int64), .second, lv ((p1.toInt64) &&& (2147483647 : Int64)), .second, lv ((p2.toInt64) &&& (2147483647 : Int64)), .second, lv (fMin ((p1.toInt64) &&& (2147483647 : Int64)) ((p2.toInt64) &&& (2147483647 : Int64))), .second, iv b7, .unset, .unset, .unset, .unset]) rfl k₀) ?_
    show Gm p e below T6 m 147 #[iv p0, iv p1, iv p2, iv p3, iv k, iv b2, rv b4, lv (3 : Int64), .second, lv ((p1.toInt64) &&& (2147483647 : Int64)), .second, lv ((p2.toInt64) &&& (2147483647 : Int64)), .second, lv (fMin ((p1.toInt64) &&& (2147483647 : Int64)) ((p2.toInt64) &&& (2147483647 : Int64))), .second, iv b7, .unset, .unset, .unset, .unset] [] _
    refine own_go (fun t₀ k₀ => XS.iload X6.here hx rfl (Jvm.hb hby at_147) rfl k₀) ?_
    show Gm p e below T6 m 149 #[iv p0, iv p1, iv p2, iv p3, iv k, iv b2, rv b4, lv (3 : Int64), .second, lv ((p1.toInt64) &&& (2147483647 : Int64)), .second, lv ((p2.toInt64) &&& (2147483647 : Int64)), .second, lv (fMin ((p1.toInt64) &&& (2147483647 : Int64)) ((p2.toInt64) &&& (2147483647 : Int64))), .second, iv b7, .unset, .unset, .unset, .unset] [(.int b7)] _
    by_cases c8 : b7 = (0 : Int32)
    · have hfork := trivial
      refine own_go (fun t₀ k₀ => XS.ifYes X6.here hx rfl (pc0 := 149) (pc' := 158) rfl (Jvm.hb hby at_149) rfl (XT.i0_eq_t c8) (by decide) (by decide) k₀) ?_
      show Gm p e below T6 m 158 #[iv p0, iv p1, iv p2, iv p3, iv k, iv b2, rv b4, lv (3 : Int64), .second, lv ((p1.toInt64) &&& (2147483647 : Int64)), .second, lv ((p2.toInt64) &&& (2147483647 : Int64)), .second, lv (fMin ((p1.toInt64) &&& (2147483647 : Int64)) ((p2.toInt64) &&& (2147483647 : Int64))), .second, iv b7, .unset, .unset, .unset, .unset] [] _
      refine own_go (fun t₀ k₀ => XS.lload X6.here hx rfl (Jvm.hb hby at_158) rfl k₀) ?_
      show Gm p e below T6 m 160 #[iv p0, iv p1, iv p2, iv p3, iv k, iv b2, rv b4, lv (3 : Int64), .second, lv ((p1.toInt64) &&& (2147483647 : Int64)), .second, lv ((p2.toInt64) &&& (2147483647 : Int64)), .second, lv (fMin ((p1.toInt64) &&& (2147483647 : Int64)) ((p2.toInt64) &&& (2147483647 : Int64))), .second, iv b7, .unset, .unset, .unset, .unset] [(.long ((p1.toInt64) &&& (2147483647 : Int64)))] _
      refine own_go (fun t₀ k₀ => XS.lload X6.here hx rfl (Jvm.hb hby at_160) rfl k₀) ?_
      show Gm p e below T6 m 162 #[iv p0, iv p1, iv p2, iv p3, iv k, iv b2, rv b4, lv (3 : Int64), .second, lv ((p1.toInt64) &&& (2147483647 : Int64)), .second, lv ((p2.toInt64) &&& (2147483647 : Int64)), .second, lv (fMin ((p1.toInt64) &&& (2147483647 : Int64)) ((p2.toInt64) &&& (2147483647 : Int64))), .second, iv b7, .unset, .unset, .unset, .unset] [(.long ((p2.toInt64) &&& (2147483647 : Int64))), (.long ((p1.toInt64) &&& (2147483647 : Int64)))] _
      obtain ⟨_, _, ⟨T9, L9, k9, n9⟩, -, X9, ⟨Lc9, hQ9, l9, y9, z9⟩, st9⟩ := Jvm.LawKit.callS X6 hx (y := (⟨"java/lang/Math", "max", "(JJ)J"⟩ : MethodName)) hown (mvT hZ (hw _ (List.mem_of_getElem? (i := 30) rfl))) (mvT hZ (hw _ (List.mem_of_getElem? (i := 31) rfl))) (mvT hZ (hw _ (List.mem_of_getElem? (i := 18) rfl))) (mvT hZ (hw _ (List.mem_of_getElem? (i := 32) rfl))) (by decide) (backOf (W := 0) (rm5 l Z a0 hw [] ((p1.toInt64) &&& (2147483647 : Int64)) ((p2.toInt64) &&& (2147483647 : Int64)) T5.heap n0 Z5) hZ (hw _ (List.mem_of_getElem? (i := 32) rfl)) (hw _ (List.mem_of_getElem? (i := 18) rfl)) (by decide) (by decide)) (g := (mkF m 162 #[iv p0, iv p1, iv p2, iv p3, iv k, iv b2, rv b4, lv (3 : Int64), .second, lv ((p1.toInt64) &&& (2147483647 : Int64)), .second, lv ((p2.toInt64) &&& (2147483647 : Int64)), .second, lv (fMin ((p1.toInt64) &&& (2147483647 : Int64)) ((p2.toInt64) &&& (2147483647 : Int64))), .second, iv b7, .unset, .unset, .unset, .unset] [(.long ((p2.toInt64) &&& (2147483647 : Int64))), (.long ((p1.toInt64) &&& (2147483647 : Int64)))])) rfl (by rw [hml]; rfl) (argsL := [(.long ((p1.toInt64) &&& (2147483647 : Int64))), (.long ((p2.toInt64) &&& (2147483647 : Int64)))]) (rest := []) (lenOf own_pd4 rfl) rfl (by show 2 * 0 + _ ≤ _; exact Nat.le_of_eq rfl) (Jvm.hb hby at_162) (fun _ _ => ⟨rfl, e6, (by decide : 2 + 0 ≤ _), (by decide : 12 + 0 ≤ _)⟩)
      dsimp only [Pt.U, Pt.locs, Pt.cells, Pt.slots] at X9 l9 y9 z9 st9 hQ9
      subst l9 y9 z9
      obtain ⟨rfl, Nq9, eq9⟩ := hQ9
      have N9 := Fr.app N6 Nq9
      have e9 : T9.heap = T5.heap := eq9
      refine own_go st9 ?_
      show Gm p e below T9 m 165 #[iv p0, iv p1, iv p2, iv p3, iv k, iv b2, rv b4, lv (3 : Int64), .second, lv ((p1.toInt64) &&& (2147483647 : Int64)), .second, lv ((p2.toInt64) &&& (2147483647 : Int64)), .second, lv (fMin ((p1.toInt64) &&& (2147483647 : Int64)) ((p2.toInt64) &&& (2147483647 : Int64))), .second, iv b7, .unset, .unset, .unset, .unset] [(.long (fMax ((p1.toInt64) &&& (2147483647 : Int64)) ((p2.toInt64) &&& (2147483647 : Int64))))] _
      refine own_go (fun t₀ k₀ => XS.lstore X9.here hx rfl (Jvm.hb hby at_165) rfl (l' := #[iv p0, iv p1, iv p2, iv p3, iv k, iv b2, rv b4, lv (3 : Int64), .second, lv ((p1.toInt64) &&& (2147483647 : Int64)), .second, lv ((p2.toInt64) &&& (2147483647 : Int64)), .second, lv (fMin ((p1.toInt64) &&& (2147483647 : Int64)) ((p2.toInt64) &&& (2147483647 : Int64))), .second, iv b7, lv (fMax ((p1.toInt64) &&& (2147483647 : Int64)) ((p2.toInt64) &&& (2147483647 : Int64))), .second, .unset, .unset]) rfl k₀) ?_
      show Gm p e below T9 m 167 #[iv p0, iv p1, iv p2, iv p3, iv k, iv b2, rv b4, lv (3 : Int64), .second, lv ((p1.toInt64) &&& (2147483647 : Int64)), .second, lv ((p2.toInt64) &&& (2147483647 : Int64)), .second, lv (fMin ((p1.toInt64) &&& (2147483647 : Int64)) ((p2.toInt64) &&& (2147483647 : Int64))), .second, iv b7, lv (fMax ((p1.toInt64) &&& (2147483647 : Int64)) ((p2.toInt64) &&& (2147483647 : Int64))), .second, .unset, .unset] [] _
      refine own_go (fun t₀ k₀ => XS.iload X9.here hx rfl (Jvm.hb hby at_167) rfl k₀) ?_
      show Gm p e below T9 m 169 #[iv p0, iv p1, iv p2, iv p3, iv k, iv b2, rv b4, lv (3 : Int64), .second, lv ((p1.toInt64) &&& (2147483647 : Int64)), .second, lv ((p2.toInt64) &&& (2147483647 : Int64)), .second, lv (fMin ((p1.toInt64) &&& (2147483647 : Int64)) ((p2.toInt64) &&& (2147483647 : Int64))), .second, iv b7, lv (fMax ((p1.toInt64) &&& (2147483647 : Int64)) ((p2.toInt64) &&& (2147483647 : Int64))), .second, .unset, .unset] [(.int b7)] _
      refine own_go (fun t₀ k₀ => XS.ifYes X9.here hx rfl (pc0 := 169) (pc' := 186) rfl (Jvm.hb hby at_169) rfl (XT.i0_eq_t c8) (by decide) (by decide) k₀) ?_
      show Gm p e below T9 m 186 #[iv p0, iv p1, iv p2, iv p3, iv k, iv b2, rv b4, lv (3 : Int64), .second, lv ((p1.toInt64) &&& (2147483647 : Int64)), .second, lv ((p2.toInt64) &&& (2147483647 : Int64)), .second, lv (fMin ((p1.toInt64) &&& (2147483647 : Int64)) ((p2.toInt64) &&& (2147483647 : Int64))), .second, iv b7, lv (fMax ((p1.toInt64) &&& (2147483647 : Int64)) ((p2.toInt64) &&& (2147483647 : Int64))), .second, .unset, .unset] [] _
      refine own_go (fun t₀ k₀ => XS.lload X9.here hx rfl (Jvm.hb hby at_186) rfl k₀) ?_
      show Gm p e below T9 m 188 #[iv p0, iv p1, iv p2, iv p3, iv k, iv b2, rv b4, lv (3 : Int64), .second, lv ((p1.toInt64) &&& (2147483647 : Int64)), .second, lv ((p2.toInt64) &&& (2147483647 : Int64)), .second, lv (fMin ((p1.toInt64) &&& (2147483647 : Int64)) ((p2.toInt64) &&& (2147483647 : Int64))), .second, iv b7, lv (fMax ((p1.toInt64) &&& (2147483647 : Int64)) ((p2.toInt64) &&& (2147483647 : Int64))), .second, .unset, .unset] [(.long (fMax ((p1.toInt64) &&& (2147483647 : Int64)) ((p2.toInt64) &&& (2147483647 : Int64))))] _
      refine own_go (fun t₀ k₀ => XS.lload X9.here hx rfl (Jvm.hb hby at_188) rfl k₀) ?_
      show Gm p e below T9 m 190 #[iv p0, iv p1, iv p2, iv p3, iv k, iv b2, rv b4, lv (3 : Int64), .second, lv ((p1.toInt64) &&& (2147483647 : Int64)), .second, lv ((p2.toInt64) &&& (2147483647 : Int64)), .second, lv (fMin ((p1.toInt64) &&& (2147483647 : Int64)) ((p2.toInt64) &&& (2147483647 : Int64))), .second, iv b7, lv (fMax ((p1.toInt64) &&& (2147483647 : Int64)) ((p2.toInt64) &&& (2147483647 : Int64))), .second, .unset, .unset] [(.long (3 : Int64)), (.long (fMax ((p1.toInt64) &&& (2147483647 : Int64)) ((p2.toInt64) &&& (2147483647 : Int64))))] _
      refine own_go (fun t₀ k₀ => XS.lconst X9.here hx rfl (Jvm.hb hby at_190) k₀) ?_
      show Gm p e below T9 m 191 #[iv p0, iv p1, iv p2, iv p3, iv k, iv b2, rv b4, lv (3 : Int64), .second, lv ((p1.toInt64) &&& (2147483647 : Int64)), .second, lv ((p2.toInt64) &&& (2147483647 : Int64)), .second, lv (fMin ((p1.toInt64) &&& (2147483647 : Int64)) ((p2.toInt64) &&& (2147483647 : Int64))), .second, iv b7, lv (fMax ((p1.toInt64) &&& (2147483647 : Int64)) ((p2.toInt64) &&& (2147483647 : Int64))), .second, .unset, .unset] [(.long (1 : Int64)), (.long (3 : Int64)), (.long (fMax ((p1.toInt64) &&& (2147483647 : Int64)) ((p2.toInt64) &&& (2147483647 : Int64))))] _
      refine own_go (fun t₀ k₀ => XS.ladd X9.here hx rfl (Jvm.hb hby at_191) rfl k₀) ?_
      show Gm p e below T9 m 192 #[iv p0, iv p1, iv p2, iv p3, iv k, iv b2, rv b4, lv (3 : Int64), .second, lv ((p1.toInt64) &&& (2147483647 : Int64)), .second, lv ((p2.toInt64) &&& (2147483647 : Int64)), .second, lv (fMin ((p1.toInt64) &&& (2147483647 : Int64)) ((p2.toInt64) &&& (2147483647 : Int64))), .second, iv b7, lv (fMax ((p1.toInt64) &&& (2147483647 : Int64)) ((p2.toInt64) &&& (2147483647 : Int64))), .second, .unset, .unset] [(.long (4 : Int64)), (.long (fMax ((p1.toInt64) &&& (2147483647 : Int64)) ((p2.toInt64) &&& (2147483647 : Int64))))] _
      refine own_go (fun t₀ k₀ => XS.lmul X9.here hx rfl (Jvm.hb hby at_192) rfl k₀) ?_
      show Gm p e below T9 m 193 #[iv p0, iv p1, iv p2, iv p3, iv k, iv b2, rv b4, lv (3 : Int64), .second, lv ((p1.toInt64) &&& (2147483647 : Int64)), .second, lv ((p2.toInt64) &&& (2147483647 : Int64)), .second, lv (fMin ((p1.toInt64) &&& (2147483647 : Int64)) ((p2.toInt64) &&& (2147483647 : Int64))), .second, iv b7, lv (fMax ((p1.toInt64) &&& (2147483647 : Int64)) ((p2.toInt64) &&& (2147483647 : Int64))), .second, .unset, .unset] [(.long ((fMax ((p1.toInt64) &&& (2147483647 : Int64)) ((p2.toInt64) &&& (2147483647 : Int64))) * (4 : Int64)))] _
      refine own_go (fun t₀ k₀ => XS.lload X9.here hx rfl (Jvm.hb hby at_193) rfl k₀) ?_
      show Gm p e below T9 m 195 #[iv p0, iv p1, iv p2, iv p3, iv k, iv b2, rv b4, lv (3 : Int64), .second, lv ((p1.toInt64) &&& (2147483647 : Int64)), .second, lv ((p2.toInt64) &&& (2147483647 : Int64)), .second, lv (fMin ((p1.toInt64) &&& (2147483647 : Int64)) ((p2.toInt64) &&& (2147483647 : Int64))), .second, iv b7, lv (fMax ((p1.toInt64) &&& (2147483647 : Int64)) ((p2.toInt64) &&& (2147483647 : Int64))), .second, .unset, .unset] [(.long (fMin ((p1.toInt64) &&& (2147483647 : Int64)) ((p2.toInt64) &&& (2147483647 : Int64)))), (.long ((fMax ((p1.toInt64) &&& (2147483647 : Int64)) ((p2.toInt64) &&& (2147483647 : Int64))) * (4 : Int64)))] _
      refine own_go (fun t₀ k₀ => XS.lsub X9.here hx rfl (Jvm.hb hby at_195) rfl k₀) ?_
      show Gm p e below T9 m 196 #[iv p0, iv p1, iv p2, iv p3, iv k, iv b2, rv b4, lv (3 : Int64), .second, lv ((p1.toInt64) &&& (2147483647 : Int64)), .second, lv ((p2.toInt64) &&& (2147483647 : Int64)), .second, lv (fMin ((p1.toInt64) &&& (2147483647 : Int64)) ((p2.toInt64) &&& (2147483647 : Int64))), .second, iv b7, lv (fMax ((p1.toInt64) &&& (2147483647 : Int64)) ((p2.toInt64) &&& (2147483647 : Int64))), .second, .unset, .unset] [(.long (((fMax ((p1.toInt64) &&& (2147483647 : Int64)) ((p2.toInt64) &&& (2147483647 : Int64))) * (4 : Int64)) - (fMin ((p1.toInt64) &&& (2147483647 : Int64)) ((p2.toInt64) &&& (2147483647 : Int64)))))] _
      refine own_go (fun t₀ k₀ => XS.lstore X9.here hx rfl (Jvm.hb hby at_196) rfl (l' := #[iv p0, iv p1, iv p2, iv p3, iv k, iv b2, rv b4, lv (3 : Int64), .second, lv ((p1.toInt64) &&& (2147483647 : Int64)), .second, lv ((p2.toInt64) &&& (2147483647 : Int64)), .second, lv (fMin ((p1.toInt64) &&& (2147483647 : Int64)) ((p2.toInt64) &&& (2147483647 : Int64))), .second, iv b7, lv (fMax ((p1.toInt64) &&& (2147483647 : Int64)) ((p2.toInt64) &&& (2147483647 : Int64))), .second, lv (((fMax ((p1.toInt64) &&& (2147483647 : Int64)) ((p2.toInt64) &&& (2147483647 : Int64))) * (4 : Int64)) - (fMin ((p1.toInt64) &&& (2147483647 : Int64)) ((p2.toInt64) &&& (2147483647 : Int64)))), .second]) rfl k₀) ?_
      show Gm p e below T9 m 198 #[iv p0, iv p1, iv p2, iv p3, iv k, iv b2, rv b4, lv (3 : Int64), .second, lv ((p1.toInt64) &&& (2147483647 : Int64)), .second, lv ((p2.toInt64) &&& (2147483647 : Int64)), .second, lv (fMin ((p1.toInt64) &&& (2147483647 : Int64)) ((p2.toInt64) &&& (2147483647 : Int64))), .second, iv b7, lv (fMax ((p1.toInt64) &&& (2147483647 : Int64)) ((p2.toInt64) &&& (2147483647 : Int64))), .second, lv (((fMax ((p1.toInt64) &&& (2147483647 : Int64)) ((p2.toInt64) &&& (2147483647 : Int64))) * (4 : Int64)) - (fMin ((p1.toInt64) &&& (2147483647 : Int64)) ((p2.toInt64) &&& (2147483647 : Int64)))), .second] [] _
      refine own_go (fun t₀ k₀ => XS.aload X9.here hx rfl (Jvm.hb hby at_198) rfl rfl k₀) ?_
      show Gm p e below T9 m 200 #[iv p0, iv p1, iv p2, iv p3, iv k, iv b2, rv b4, lv (3 : Int64), .second, lv ((p1.toInt64) &&& (2147483647 : Int64)), .second, lv ((p2.toInt64) &&& (2147483647 : Int64)), .second, lv (fMin ((p1.toInt64) &&& (2147483647 : Int64)) ((p2.toInt64) &&& (2147483647 : Int64))), .second, iv b7, lv (fMax ((p1.toInt64) &&& (2147483647 : Int64)) ((p2.toInt64) &&& (2147483647 : Int64))), .second, lv (((fMax ((p1.toInt64) &&& (2147483647 : Int64)) ((p2.toInt64) &&& (2147483647 : Int64))) * (4 : Int64)) - (fMin ((p1.toInt64) &&& (2147483647 : Int64)) ((p2.toInt64) &&& (2147483647 : Int64)))), .second] [(.ref b4)] _
      refine own_go (fun t₀ k₀ => XS.lload X9.here hx rfl (Jvm.hb hby at_200) rfl k₀) ?_
      show Gm p e below T9 m 202 #[iv p0, iv p1, iv p2, iv p3, iv k, iv b2, rv b4, lv (3 : Int64), .second, lv ((p1.toInt64) &&& (2147483647 : Int64)), .second, lv ((p2.toInt64) &&& (2147483647 : Int64)), .second, lv (fMin ((p1.toInt64) &&& (2147483647 : Int64)) ((p2.toInt64) &&& (2147483647 : Int64))), .second, iv b7, lv (fMax ((p1.toInt64) &&& (2147483647 : Int64)) ((p2.toInt64) &&& (2147483647 : Int64))), .second, lv (((fMax ((p1.toInt64) &&& (2147483647 : Int64)) ((p2.toInt64) &&& (2147483647 : Int64))) * (4 : Int64)) - (fMin ((p1.toInt64) &&& (2147483647 : Int64)) ((p2.toInt64) &&& (2147483647 : Int64)))), .second] [(.long (fMin ((p1.toInt64) &&& (2147483647 : Int64)) ((p2.toInt64) &&& (2147483647 : Int64)))), (.ref b4)] _
      refine own_go (fun t₀ k₀ => XS.lload X9.here hx rfl (Jvm.hb hby at_202) rfl k₀) ?_
      show Gm p e below T9 m 204 #[iv p0, iv p1, iv p2, iv p3, iv k, iv b2, rv b4, lv (3 : Int64), .second, lv ((p1.toInt64) &&& (2147483647 : Int64)), .second, lv ((p2.toInt64) &&& (2147483647 : Int64)), .second, lv (fMin ((p1.toInt64) &&& (2147483647 : Int64)) ((p2.toInt64) &&& (2147483647 : Int64))), .second, iv b7, lv (fMax ((p1.toInt64) &&& (2147483647 : Int64)) ((p2.toInt64) &&& (2147483647 : Int64))), .second, lv (((fMax ((p1.toInt64) &&& (2147483647 : Int64)) ((p2.toInt64) &&& (2147483647 : Int64))) * (4 : Int64)) - (fMin ((p1.toInt64) &&& (2147483647 : Int64)) ((p2.toInt64) &&& (2147483647 : Int64)))), .second] [(.long (fMax ((p1.toInt64) &&& (2147483647 : Int64)) ((p2.toInt64) &&& (2147483647 : Int64)))), (.long (fMin ((p1.toInt64) &&& (2147483647 : Int64)) ((p2.toInt64) &&& (2147483647 : Int64)))), (.ref b4)] _
      obtain ⟨cq10, kq10, q10a, q10b, q10c⟩ := isOf hZ e9 Ec5
      obtain ⟨_, _, ⟨T10, L10, k10, n10⟩, -, X10, ⟨Lc10, hQ10, l10, y10, z10⟩, st10⟩ := X9.virtualBack hx (y := (⟨"com/example/data_in_bounds/datainbounds/metapath/RegexProgram$Fragment", "repeatedLength", "(JJ)J"⟩ : MethodName)) (z := (⟨"com/example/data_in_bounds/datainbounds/metapath/RegexProgram$Fragment", "repeatedLength", "(JJ)J"⟩ : MethodName)) hown (mvT hZ (hw _ (List.mem_of_getElem? (i := 22) rfl))) (mvT hZ (hw _ (List.mem_of_getElem? (i := 23) rfl))) (notFace_of_selects (args := #[]) (mvT hZ (hw _ (List.mem_of_getElem? (i := 25) rfl)))) (mvT hZ (hw _ (List.mem_of_getElem? (i := 25) rfl))) (mvT hZ (hw _ (List.mem_of_getElem? (i := 24) rfl))) (by decide) (backOf (W := 0) (rm4 l Z a0 hw [] b4 (fMin ((p1.toInt64) &&& (2147483647 : Int64)) ((p2.toInt64) &&& (2147483647 : Int64))) (fMax ((p1.toInt64) &&& (2147483647 : Int64)) ((p2.toInt64) &&& (2147483647 : Int64))) (0 : Int32) (1 : Int32) T5.heap n0 Z5 Flen5 Fnul5) hZ (hw _ (List.mem_of_getElem? (i := 26) rfl)) (hw _ (List.mem_of_getElem? (i := 2) rfl)) (by decide) (by decide)) q10a q10c (g := (mkF m 204 #[iv p0, iv p1, iv p2, iv p3, iv k, iv b2, rv b4, lv (3 : Int64), .second, lv ((p1.toInt64) &&& (2147483647 : Int64)), .second, lv ((p2.toInt64) &&& (2147483647 : Int64)), .second, lv (fMin ((p1.toInt64) &&& (2147483647 : Int64)) ((p2.toInt64) &&& (2147483647 : Int64))), .second, iv b7, lv (fMax ((p1.toInt64) &&& (2147483647 : Int64)) ((p2.toInt64) &&& (2147483647 : Int64))), .second, lv (((fMax ((p1.toInt64) &&& (2147483647 : Int64)) ((p2.toInt64) &&& (2147483647 : Int64))) * (4 : Int64)) - (fMin ((p1.toInt64) &&& (2147483647 : Int64)) ((p2.toInt64) &&& (2147483647 : Int64)))), .second] [(.long (fMax ((p1.toInt64) &&& (2147483647 : Int64)) ((p2.toInt64) &&& (2147483647 : Int64)))), (.long (fMin ((p1.toInt64) &&& (2147483647 : Int64)) ((p2.toInt64) &&& (2147483647 : Int64)))), (.ref b4)])) rfl (by rw [hml]; rfl) (Steps.refl _) (argsL := [(.long (fMin ((p1.toInt64) &&& (2147483647 : Int64)) ((p2.toInt64) &&& (2147483647 : Int64)))), (.long (fMax ((p1.toInt64) &&& (2147483647 : Int64)) ((p2.toInt64) &&& (2147483647 : Int64))))]) (rest := []) (lenOf own_pd4 rfl) rfl (by show 2 * 0 + _ ≤ _; exact Nat.le_of_eq rfl) (Jvm.hb hby at_204) (fun _ _ => ⟨rfl, e9, (by decide : 2 + 0 ≤ _), (by decide : 12 + 0 ≤ _)⟩)
      dsimp only [Pt.U, Pt.locs, Pt.cells, Pt.slots] at X10 l10 y10 z10 st10 hQ10
      subst l10 y10 z10
      obtain ⟨rfl, Nq10, eq10⟩ := hQ10
      have N10 := Fr.app N9 Nq10
      have e10 : T10.heap = T5.heap := eq10
      refine own_go (fun t k => st10.trans k) ?_
      show Gm p e below T10 m 207 #[iv p0, iv p1, iv p2, iv p3, iv k, iv b2, rv b4, lv (3 : Int64), .second, lv ((p1.toInt64) &&& (2147483647 : Int64)), .second, lv ((p2.toInt64) &&& (2147483647 : Int64)), .second, lv (fMin ((p1.toInt64) &&& (2147483647 : Int64)) ((p2.toInt64) &&& (2147483647 : Int64))), .second, iv b7, lv (fMax ((p1.toInt64) &&& (2147483647 : Int64)) ((p2.toInt64) &&& (2147483647 : Int64))), .second, lv (((fMax ((p1.toInt64) &&& (2147483647 : Int64)) ((p2.toInt64) &&& (2147483647 : Int64))) * (4 : Int64)) - (fMin ((p1.toInt64) &&& (2147483647 : Int64)) ((p2.toInt64) &&& (2147483647 : Int64)))), .second] [(.long (fR (fMin ((p1.toInt64) &&& (2147483647 : Int64)) ((p2.toInt64) &&& (2147483647 : Int64))) (fMax ((p1.toInt64) &&& (2147483647 : Int64)) ((p2.toInt64) &&& (2147483647 : Int64))) (0 : Int32) (1 : Int32)))] _
      refine own_go (fun t₀ k₀ => XS.lload X10.here hx rfl (Jvm.hb hby at_207) rfl k₀) ?_
      show Gm p e below T10 m 209 #[iv p0, iv p1, iv p2, iv p3, iv k, iv b2, rv b4, lv (3 : Int64), .second, lv ((p1.toInt64) &&& (2147483647 : Int64)), .second, lv ((p2.toInt64) &&& (2147483647 : Int64)), .second, lv (fMin ((p1.toInt64) &&& (2147483647 : Int64)) ((p2.toInt64) &&& (2147483647 : Int64))), .second, iv b7, lv (fMax ((p1.toInt64) &&& (2147483647 : Int64)) ((p2.toInt64) &&& (2147483647 : Int64))), .second, lv (((fMax ((p1.toInt64) &&& (2147483647 : Int64)) ((p2.toInt64) &&& (2147483647 : Int64))) * (4 : Int64)) - (fMin ((p1.toInt64) &&& (2147483647 : Int64)) ((p2.toInt64) &&& (2147483647 : Int64)))), .second] [(.long (((fMax ((p1.toInt64) &&& (2147483647 : Int64)) ((p2.toInt64) &&& (2147483647 : Int64))) * (4 : Int64)) - (fMin ((p1.toInt64) &&& (2147483647 : Int64)) ((p2.toInt64) &&& (2147483647 : Int64))))), (.long (fR (fMin ((p1.toInt64) &&& (2147483647 : Int64)) ((p2.toInt64) &&& (2147483647 : Int64))) (fMax ((p1.toInt64) &&& (2147483647 : Int64)) ((p2.toInt64) &&& (2147483647 : Int64))) (0 : Int32) (1 : Int32)))] _
      refine own_go (fun t₀ k₀ => XT.lcmp X10.here hx rfl (Jvm.hb hby at_209) rfl k₀) ?_
      show Gm p e below T10 m 210 #[iv p0, iv p1, iv p2, iv p3, iv k, iv b2, rv b4, lv (3 : Int64), .second, lv ((p1.toInt64) &&& (2147483647 : Int64)), .second, lv ((p2.toInt64) &&& (2147483647 : Int64)), .second, lv (fMin ((p1.toInt64) &&& (2147483647 : Int64)) ((p2.toInt64) &&& (2147483647 : Int64))), .second, iv b7, lv (fMax ((p1.toInt64) &&& (2147483647 : Int64)) ((p2.toInt64) &&& (2147483647 : Int64))), .second, lv (((fMax ((p1.toInt64) &&& (2147483647 : Int64)) ((p2.toInt64) &&& (2147483647 : Int64))) * (4 : Int64)) - (fMin ((p1.toInt64) &&& (2147483647 : Int64)) ((p2.toInt64) &&& (2147483647 : Int64)))), .second] [(.int (XT.cmpL (fR (fMin ((p1.toInt64) &&& (2147483647 : Int64)) ((p2.toInt64) &&& (2147483647 : Int64))) (fMax ((p1.toInt64) &&& (2147483647 : Int64)) ((p2.toInt64) &&& (2147483647 : Int64))) (0 : Int32) (1 : Int32)) (((fMax ((p1.toInt64) &&& (2147483647 : Int64)) ((p2.toInt64) &&& (2147483647 : Int64))) * (4 : Int64)) - (fMin ((p1.toInt64) &&& (2147483647 : Int64)) ((p2.toInt64) &&& (2147483647 : Int64))))))] _
      refine own_go (fun t₀ k₀ => XS.ifNo X10.here hx rfl (Jvm.hb hby at_210) rfl (XT.ll_ne_f (own_fin _ _ _ _ (3 : Int64) _ (by decide) (by rw [if_neg (own_max _ _ hp hq)]; try rfl))) k₀) ?_
      show Gm p e below T10 m 213 #[iv p0, iv p1, iv p2, iv p3, iv k, iv b2, rv b4, lv (3 : Int64), .second, lv ((p1.toInt64) &&& (2147483647 : Int64)), .second, lv ((p2.toInt64) &&& (2147483647 : Int64)), .second, lv (fMin ((p1.toInt64) &&& (2147483647 : Int64)) ((p2.toInt64) &&& (2147483647 : Int64))), .second, iv b7, lv (fMax ((p1.toInt64) &&& (2147483647 : Int64)) ((p2.toInt64) &&& (2147483647 : Int64))), .second, lv (((fMax ((p1.toInt64) &&& (2147483647 : Int64)) ((p2.toInt64) &&& (2147483647 : Int64))) * (4 : Int64)) - (fMin ((p1.toInt64) &&& (2147483647 : Int64)) ((p2.toInt64) &&& (2147483647 : Int64)))), .second] [] _
      refine own_go (fun t₀ k₀ => XS.iconst X10.here hx rfl (Jvm.hb hby at_213) k₀) ?_
      show Gm p e below T10 m 214 #[iv p0, iv p1, iv p2, iv p3, iv k, iv b2, rv b4, lv (3 : Int64), .second, lv ((p1.toInt64) &&& (2147483647 : Int64)), .second, lv ((p2.toInt64) &&& (2147483647 : Int64)), .second, lv (fMin ((p1.toInt64) &&& (2147483647 : Int64)) ((p2.toInt64) &&& (2147483647 : Int64))), .second, iv b7, lv (fMax ((p1.toInt64) &&& (2147483647 : Int64)) ((p2.toInt64) &&& (2147483647 : Int64))), .second, lv (((fMax ((p1.toInt64) &&& (2147483647 : Int64)) ((p2.toInt64) &&& (2147483647 : Int64))) * (4 : Int64)) - (fMin ((p1.toInt64) &&& (2147483647 : Int64)) ((p2.toInt64) &&& (2147483647 : Int64)))), .second] [(.int (1 : Int32))] _
      refine own_go (fun t₀ k₀ => XS.goto X10.here hx rfl (pc0 := 214) (pc' := 218) rfl (Jvm.hb hby at_214) (by decide) (by decide) k₀) ?_
      show Gm p e below T10 m 218 #[iv p0, iv p1, iv p2, iv p3, iv k, iv b2, rv b4, lv (3 : Int64), .second, lv ((p1.toInt64) &&& (2147483647 : Int64)), .second, lv ((p2.toInt64) &&& (2147483647 : Int64)), .second, lv (fMin ((p1.toInt64) &&& (2147483647 : Int64)) ((p2.toInt64) &&& (2147483647 : Int64))), .second, iv b7, lv (fMax ((p1.toInt64) &&& (2147483647 : Int64)) ((p2.toInt64) &&& (2147483647 : Int64))), .second, lv (((fMax ((p1.toInt64) &&& (2147483647 : Int64)) ((p2.toInt64) &&& (2147483647 : Int64))) * (4 : Int64)) - (fMin ((p1.toInt64) &&& (2147483647 : Int64)) ((p2.toInt64) &&& (2147483647 : Int64)))), .second] [(.int (1 : Int32))] _
      exact own_retI X10 hx hlk (t := .boolean) Bd.returns rfl (by simp) (Jvm.hb hby at_218) e10 ⟨rfl, N10⟩ (by decide) (by decide)
    · have hfork := trivial
      refine own_go (fun t₀ k₀ => XS.ifNo X6.here hx rfl (Jvm.hb hby at_149) rfl (XT.i0_eq_f c8) k₀) ?_
      show Gm p e below T6 m 152 #[iv p0, iv p1, iv p2, iv p3, iv k, iv b2, rv b4, lv (3 : Int64), .second, lv ((p1.toInt64) &&& (2147483647 : Int64)), .second, lv ((p2.toInt64) &&& (2147483647 : Int64)), .second, lv (fMin ((p1.toInt64) &&& (2147483647 : Int64)) ((p2.toInt64) &&& (2147483647 : Int64))), .second, iv b7, .unset, .unset, .unset, .unset] [] _
      refine own_go (fun t₀ k₀ => X6.ldc2J hx hown (mvT hZ (hw _ (List.mem_of_getElem? (i := 20) rfl))) rfl (Jvm.hb hby at_152) k₀) ?_
      show Gm p e below T6 m 155 #[iv p0, iv p1, iv p2, iv p3, iv k, iv b2, rv b4, lv (3 : Int64), .second, lv ((p1.toInt64) &&& (2147483647 : Int64)), .second, lv ((p2.toInt64) &&& (2147483647 : Int64)), .second, lv (fMin ((p1.toInt64) &&& (2147483647 : Int64)) ((p2.toInt64) &&& (2147483647 : Int64))), .second, iv b7, .unset, .unset, .unset, .unset] [(.long (-1 : Int64))] _
      refine own_go (fun t₀ k₀ => XS.goto X6.here hx rfl (pc0 := 155) (pc' := 165) rfl (Jvm.hb hby at_155) (by decide) (by decide) k₀) ?_
      show Gm p e below T6 m 165 #[iv p0, iv p1, iv p2, iv p3, iv k, iv b2, rv b4, lv (3 : Int64), .second, lv ((p1.toInt64) &&& (2147483647 : Int64)), .second, lv ((p2.toInt64) &&& (2147483647 : Int64)), .second, lv (fMin ((p1.toInt64) &&& (2147483647 : Int64)) ((p2.toInt64) &&& (2147483647 : Int64))), .second, iv b7, .unset, .unset, .unset, .unset] [(.long (-1 : Int64))] _
      refine own_go (fun t₀ k₀ => XS.lstore X6.here hx rfl (Jvm.hb hby at_165) rfl (l' := #[iv p0, iv p1, iv p2, iv p3, iv k, iv b2, rv b4, lv (3 : Int64), .second, lv ((p1.toInt64) &&& (2147483647 : Int64)), .second, lv ((p2.toInt64) &&& (2147483647 : Int64)), .second, lv (fMin ((p1.toInt64) &&& (2147483647 : Int64)) ((p2.toInt64) &&& (2147483647 : Int64))), .second, iv b7, lv (-1 : Int64), .second, .unset, .unset]) rfl k₀) ?_
      show Gm p e below T6 m 167 #[iv p0, iv p1, iv p2, iv p3, iv k, iv b2, rv b4, lv (3 : Int64), .second, lv ((p1.toInt64) &&& (2147483647 : Int64)), .second, lv ((p2.toInt64) &&& (2147483647 : Int64)), .second, lv (fMin ((p1.toInt64) &&& (2147483647 : Int64)) ((p2.toInt64) &&& (2147483647 : Int64))), .second, iv b7, lv (-1 : Int64), .second, .unset, .unset] [] _
      refine own_go (fun t₀ k₀ => XS.iload X6.here hx rfl (Jvm.hb hby at_167) rfl k₀) ?_
      show Gm p e below T6 m 169 #[iv p0, iv p1, iv p2, iv p3, iv k, iv b2, rv b4, lv (3 : Int64), .second, lv ((p1.toInt64) &&& (2147483647 : Int64)), .second, lv ((p2.toInt64) &&& (2147483647 : Int64)), .second, lv (fMin ((p1.toInt64) &&& (2147483647 : Int64)) ((p2.toInt64) &&& (2147483647 : Int64))), .second, iv b7, lv (-1 : Int64), .second, .unset, .unset] [(.int b7)] _
      refine own_go (fun t₀ k₀ => XS.ifNo X6.here hx rfl (Jvm.hb hby at_169) rfl (XT.i0_eq_f c8) k₀) ?_
      show Gm p e below T6 m 172 #[iv p0, iv p1, iv p2, iv p3, iv k, iv b2, rv b4, lv (3 : Int64), .second, lv ((p1.toInt64) &&& (2147483647 : Int64)), .second, lv ((p2.toInt64) &&& (2147483647 : Int64)), .second, lv (fMin ((p1.toInt64) &&& (2147483647 : Int64)) ((p2.toInt64) &&& (2147483647 : Int64))), .second, iv b7, lv (-1 : Int64), .second, .unset, .unset] [] _
      refine own_go (fun t₀ k₀ => XS.lload X6.here hx rfl (Jvm.hb hby at_172) rfl k₀) ?_
      show Gm p e below T6 m 174 #[iv p0, iv p1, iv p2, iv p3, iv k, iv b2, rv b4, lv (3 : Int64), .second, lv ((p1.toInt64) &&& (2147483647 : Int64)), .second, lv ((p2.toInt64) &&& (2147483647 : Int64)), .second, lv (fMin ((p1.toInt64) &&& (2147483647 : Int64)) ((p2.toInt64) &&& (2147483647 : Int64))), .second, iv b7, lv (-1 : Int64), .second, .unset, .unset] [(.long (fMin ((p1.toInt64) &&& (2147483647 : Int64)) ((p2.toInt64) &&& (2147483647 : Int64))))] _
      refine own_go (fun t₀ k₀ => XS.lconst X6.here hx rfl (Jvm.hb hby at_174) k₀) ?_
      show Gm p e below T6 m 175 #[iv p0, iv p1, iv p2, iv p3, iv k, iv b2, rv b4, lv (3 : Int64), .second, lv ((p1.toInt64) &&& (2147483647 : Int64)), .second, lv ((p2.toInt64) &&& (2147483647 : Int64)), .second, lv (fMin ((p1.toInt64) &&& (2147483647 : Int64)) ((p2.toInt64) &&& (2147483647 : Int64))), .second, iv b7, lv (-1 : Int64), .second, .unset, .unset] [(.long (1 : Int64)), (.long (fMin ((p1.toInt64) &&& (2147483647 : Int64)) ((p2.toInt64) &&& (2147483647 : Int64))))] _
      refine own_go (fun t₀ k₀ => XS.ladd X6.here hx rfl (Jvm.hb hby at_175) rfl k₀) ?_
      show Gm p e below T6 m 176 #[iv p0, iv p1, iv p2, iv p3, iv k, iv b2, rv b4, lv (3 : Int64), .second, lv ((p1.toInt64) &&& (2147483647 : Int64)), .second, lv ((p2.toInt64) &&& (2147483647 : Int64)), .second, lv (fMin ((p1.toInt64) &&& (2147483647 : Int64)) ((p2.toInt64) &&& (2147483647 : Int64))), .second, iv b7, lv (-1 : Int64), .second, .unset, .unset] [(.long ((fMin ((p1.toInt64) &&& (2147483647 : Int64)) ((p2.toInt64) &&& (2147483647 : Int64))) + (1 : Int64)))] _
      refine own_go (fun t₀ k₀ => XS.lload X6.here hx rfl (Jvm.hb hby at_176) rfl k₀) ?_
      show Gm p e below T6 m 178 #[iv p0, iv p1, iv p2, iv p3, iv k, iv b2, rv b4, lv (3 : Int64), .second, lv ((p1.toInt64) &&& (2147483647 : Int64)), .second, lv ((p2.toInt64) &&& (2147483647 : Int64)), .second, lv (fMin ((p1.toInt64) &&& (2147483647 : Int64)) ((p2.toInt64) &&& (2147483647 : Int64))), .second, iv b7, lv (-1 : Int64), .second, .unset, .unset] [(.long (3 : Int64)), (.long ((fMin ((p1.toInt64) &&& (2147483647 : Int64)) ((p2.toInt64) &&& (2147483647 : Int64))) + (1 : Int64)))] _
      refine own_go (fun t₀ k₀ => XS.lmul X6.here hx rfl (Jvm.hb hby at_178) rfl k₀) ?_
      show Gm p e below T6 m 179 #[iv p0, iv p1, iv p2, iv p3, iv k, iv b2, rv b4, lv (3 : Int64), .second, lv ((p1.toInt64) &&& (2147483647 : Int64)), .second, lv ((p2.toInt64) &&& (2147483647 : Int64)), .second, lv (fMin ((p1.toInt64) &&& (2147483647 : Int64)) ((p2.toInt64) &&& (2147483647 : Int64))), .second, iv b7, lv (-1 : Int64), .second, .unset, .unset] [(.long (((fMin ((p1.toInt64) &&& (2147483647 : Int64)) ((p2.toInt64) &&& (2147483647 : Int64))) + (1 : Int64)) * (3 : Int64)))] _
      refine own_go (fun t₀ k₀ => X6.ldc2J hx hown (mvT hZ (hw _ (List.mem_of_getElem? (i := 21) rfl))) rfl (Jvm.hb hby at_179) k₀) ?_
      show Gm p e below T6 m 182 #[iv p0, iv p1, iv p2, iv p3, iv k, iv b2, rv b4, lv (3 : Int64), .second, lv ((p1.toInt64) &&& (2147483647 : Int64)), .second, lv ((p2.toInt64) &&& (2147483647 : Int64)), .second, lv (fMin ((p1.toInt64) &&& (2147483647 : Int64)) ((p2.toInt64) &&& (2147483647 : Int64))), .second, iv b7, lv (-1 : Int64), .second, .unset, .unset] [(.long (2 : Int64)), (.long (((fMin ((p1.toInt64) &&& (2147483647 : Int64)) ((p2.toInt64) &&& (2147483647 : Int64))) + (1 : Int64)) * (3 : Int64)))] _
      refine own_go (fun t₀ k₀ => XS.ladd X6.here hx rfl (Jvm.hb hby at_182) rfl k₀) ?_
      show Gm p e below T6 m 183 #[iv p0, iv p1, iv p2, iv p3, iv k, iv b2, rv b4, lv (3 : Int64), .second, lv ((p1.toInt64) &&& (2147483647 : Int64)), .second, lv ((p2.toInt64) &&& (2147483647 : Int64)), .second, lv (fMin ((p1.toInt64) &&& (2147483647 : Int64)) ((p2.toInt64) &&& (2147483647 : Int64))), .second, iv b7, lv (-1 : Int64), .second, .unset, .unset] [(.long ((((fMin ((p1.toInt64) &&& (2147483647 : Int64)) ((p2.toInt64) &&& (2147483647 : Int64))) + (1 : Int64)) * (3 : Int64)) + (2 : Int64)))] _
      refine own_go (fun t₀ k₀ => XS.goto X6.here hx rfl (pc0 := 183) (pc' := 196) rfl (Jvm.hb hby at_183) (by decide) (by decide) k₀) ?_
      show Gm p e below T6 m 196 #[iv p0, iv p1, iv p2, iv p3, iv k, iv b2, rv b4, lv (3 : Int64), .second, lv ((p1.toInt64) &&& (2147483647 : Int64)), .second, lv ((p2.toInt64) &&& (2147483647 : Int64)), .second, lv (fMin ((p1.toInt64) &&& (2147483647 : Int64)) ((p2.toInt64) &&& (2147483647 : Int64))), .second, iv b7, lv (-1 : Int64), .second, .unset, .unset] [(.long ((((fMin ((p1.toInt64) &&& (2147483647 : Int64)) ((p2.toInt64) &&& (2147483647 : Int64))) + (1 : Int64)) * (3 : Int64)) + (2 : Int64)))] _
      refine own_go (fun t₀ k₀ => XS.lstore X6.here hx rfl (Jvm.hb hby at_196) rfl (l' := #[iv p0, iv p1, iv p2, iv p3, iv k, iv b2, rv b4, lv (3 : Int64), .second, lv ((p1.toInt64) &&& (2147483647 : Int64)), .second, lv ((p2.toInt64) &&& (2147483647 : Int64)), .second, lv (fMin ((p1.toInt64) &&& (2147483647 : Int64)) ((p2.toInt64) &&& (2147483647 : Int64))), .second, iv b7, lv (-1 : Int64), .second, lv ((((fMin ((p1.toInt64) &&& (2147483647 : Int64)) ((p2.toInt64) &&& (2147483647 : Int64))) + (1 : Int64)) * (3 : Int64)) + (2 : Int64)), .second]) rfl k₀) ?_
      show Gm p e below T6 m 198 #[iv p0, iv p1, iv p2, iv p3, iv k, iv b2, rv b4, lv (3 : Int64), .second, lv ((p1.toInt64) &&& (2147483647 : Int64)), .second, lv ((p2.toInt64) &&& (2147483647 : Int64)), .second, lv (fMin ((p1.toInt64) &&& (2147483647 : Int64)) ((p2.toInt64) &&& (2147483647 : Int64))), .second, iv b7, lv (-1 : Int64), .second, lv ((((fMin ((p1.toInt64) &&& (2147483647 : Int64)) ((p2.toInt64) &&& (2147483647 : Int64))) + (1 : Int64)) * (3 : Int64)) + (2 : Int64)), .second] [] _
      refine own_go (fun t₀ k₀ => XS.aload X6.here hx rfl (Jvm.hb hby at_198) rfl rfl k₀) ?_
      show Gm p e below T6 m 200 #[iv p0, iv p1, iv p2, iv p3, iv k, iv b2, rv b4, lv (3 : Int64), .second, lv ((p1.toInt64) &&& (2147483647 : Int64)), .second, lv ((p2.toInt64) &&& (2147483647 : Int64)), .second, lv (fMin ((p1.toInt64) &&& (2147483647 : Int64)) ((p2.toInt64) &&& (2147483647 : Int64))), .second, iv b7, lv (-1 : Int64), .second, lv ((((fMin ((p1.toInt64) &&& (2147483647 : Int64)) ((p2.toInt64) &&& (2147483647 : Int64))) + (1 : Int64)) * (3 : Int64)) + (2 : Int64)), .second] [(.ref b4)] _
      refine own_go (fun t₀ k₀ => XS.lload X6.here hx rfl (Jvm.hb hby at_200) rfl k₀) ?_
      show Gm p e below T6 m 202 #[iv p0, iv p1, iv p2, iv p3, iv k, iv b2, rv b4, lv (3 : Int64), .second, lv ((p1.toInt64) &&& (2147483647 : Int64)), .second, lv ((p2.toInt64) &&& (2147483647 : Int64)), .second, lv (fMin ((p1.toInt64) &&& (2147483647 : Int64)) ((p2.toInt64) &&& (2147483647 : Int64))), .second, iv b7, lv (-1 : Int64), .second, lv ((((fMin ((p1.toInt64) &&& (2147483647 : Int64)) ((p2.toInt64) &&& (2147483647 : Int64))) + (1 : Int64)) * (3 : Int64)) + (2 : Int64)), .second] [(.long (fMin ((p1.toInt64) &&& (2147483647 : Int64)) ((p2.toInt64) &&& (2147483647 : Int64)))), (.ref b4)] _
      refine own_go (fun t₀ k₀ => XS.lload X6.here hx rfl (Jvm.hb hby at_202) rfl k₀) ?_
      show Gm p e below T6 m 204 #[iv p0, iv p1, iv p2, iv p3, iv k, iv b2, rv b4, lv (3 : Int64), .second, lv ((p1.toInt64) &&& (2147483647 : Int64)), .second, lv ((p2.toInt64) &&& (2147483647 : Int64)), .second, lv (fMin ((p1.toInt64) &&& (2147483647 : Int64)) ((p2.toInt64) &&& (2147483647 : Int64))), .second, iv b7, lv (-1 : Int64), .second, lv ((((fMin ((p1.toInt64) &&& (2147483647 : Int64)) ((p2.toInt64) &&& (2147483647 : Int64))) + (1 : Int64)) * (3 : Int64)) + (2 : Int64)), .second] [(.long (-1 : Int64)), (.long (fMin ((p1.toInt64) &&& (2147483647 : Int64)) ((p2.toInt64) &&& (2147483647 : Int64)))), (.ref b4)] _
      obtain ⟨cq11, kq11, q11a, q11b, q11c⟩ := isOf hZ e6 Ec5
      obtain ⟨_, _, ⟨T11, L11, k11, n11⟩, -, X11, ⟨Lc11, hQ11, l11, y11, z11⟩, st11⟩ := X6.virtualBack hx (y := (⟨"com/example/data_in_bounds/datainbounds/metapath/RegexProgram$Fragment", "repeatedLength", "(JJ)J"⟩ : MethodName)) (z := (⟨"com/example/data_in_bounds/datainbounds/metapath/RegexProgram$Fragment", "repeatedLength", "(JJ)J"⟩ : MethodName)) hown (mvT hZ (hw _ (List.mem_of_getElem? (i := 22) rfl))) (mvT hZ (hw _ (List.mem_of_getElem? (i := 23) rfl))) (notFace_of_selects (args := #[]) (mvT hZ (hw _ (List.mem_of_getElem? (i := 25) rfl)))) (mvT hZ (hw _ (List.mem_of_getElem? (i := 25) rfl))) (mvT hZ (hw _ (List.mem_of_getElem? (i := 24) rfl))) (by decide) (backOf (W := 0) (rm4 l Z a0 hw [] b4 (fMin ((p1.toInt64) &&& (2147483647 : Int64)) ((p2.toInt64) &&& (2147483647 : Int64))) (-1 : Int64) (0 : Int32) (1 : Int32) T5.heap n0 Z5 Flen5 Fnul5) hZ (hw _ (List.mem_of_getElem? (i := 26) rfl)) (hw _ (List.mem_of_getElem? (i := 2) rfl)) (by decide) (by decide)) q11a q11c (g := (mkF m 204 #[iv p0, iv p1, iv p2, iv p3, iv k, iv b2, rv b4, lv (3 : Int64), .second, lv ((p1.toInt64) &&& (2147483647 : Int64)), .second, lv ((p2.toInt64) &&& (2147483647 : Int64)), .second, lv (fMin ((p1.toInt64) &&& (2147483647 : Int64)) ((p2.toInt64) &&& (2147483647 : Int64))), .second, iv b7, lv (-1 : Int64), .second, lv ((((fMin ((p1.toInt64) &&& (2147483647 : Int64)) ((p2.toInt64) &&& (2147483647 : Int64))) + (1 : Int64)) * (3 : Int64)) + (2 : Int64)), .second] [(.long (-1 : Int64)), (.long (fMin ((p1.toInt64) &&& (2147483647 : Int64)) ((p2.toInt64) &&& (2147483647 : Int64)))), (.ref b4)])) rfl (by rw [hml]; rfl) (Steps.refl _) (argsL := [(.long (fMin ((p1.toInt64) &&& (2147483647 : Int64)) ((p2.toInt64) &&& (2147483647 : Int64)))), (.long (-1 : Int64))]) (rest := []) (lenOf own_pd4 rfl) rfl (by show 2 * 0 + _ ≤ _; exact Nat.le_of_eq rfl) (Jvm.hb hby at_204) (fun _ _ => ⟨rfl, e6, (by decide : 2 + 0 ≤ _), (by decide : 12 + 0 ≤ _)⟩)
      dsimp only [Pt.U, Pt.locs, Pt.cells, Pt.slots] at X11 l11 y11 z11 st11 hQ11
      subst l11 y11 z11
      obtain ⟨rfl, Nq11, eq11⟩ := hQ11
      have N11 := Fr.app N6 Nq11
      have e11 : T11.heap = T5.heap := eq11
      refine own_go (fun t k => st11.trans k) ?_
      show Gm p e below T11 m 207 #[iv p0, iv p1, iv p2, iv p3, iv k, iv b2, rv b4, lv (3 : Int64), .second, lv ((p1.toInt64) &&& (2147483647 : Int64)), .second, lv ((p2.toInt64) &&& (2147483647 : Int64)), .second, lv (fMin ((p1.toInt64) &&& (2147483647 : Int64)) ((p2.toInt64) &&& (2147483647 : Int64))), .second, iv b7, lv (-1 : Int64), .second, lv ((((fMin ((p1.toInt64) &&& (2147483647 : Int64)) ((p2.toInt64) &&& (2147483647 : Int64))) + (1 : Int64)) * (3 : Int64)) + (2 : Int64)), .second] [(.long (fR (fMin ((p1.toInt64) &&& (2147483647 : Int64)) ((p2.toInt64) &&& (2147483647 : Int64))) (-1 : Int64) (0 : Int32) (1 : Int32)))] _
      refine own_go (fun t₀ k₀ => XS.lload X11.here hx rfl (Jvm.hb hby at_207) rfl k₀) ?_
      show Gm p e below T11 m 209 #[iv p0, iv p1, iv p2, iv p3, iv k, iv b2, rv b4, lv (3 : Int64), .second, lv ((p1.toInt64) &&& (2147483647 : Int64)), .second, lv ((p2.toInt64) &&& (2147483647 : Int64)), .second, lv (fMin ((p1.toInt64) &&& (2147483647 : Int64)) ((p2.toInt64) &&& (2147483647 : Int64))), .second, iv b7, lv (-1 : Int64), .second, lv ((((fMin ((p1.toInt64) &&& (2147483647 : Int64)) ((p2.toInt64) &&& (2147483647 : Int64))) + (1 : Int64)) * (3 : Int64)) + (2 : Int64)), .second] [(.long ((((fMin ((p1.toInt64) &&& (2147483647 : Int64)) ((p2.toInt64) &&& (2147483647 : Int64))) + (1 : Int64)) * (3 : Int64)) + (2 : Int64))), (.long (fR (fMin ((p1.toInt64) &&& (2147483647 : Int64)) ((p2.toInt64) &&& (2147483647 : Int64))) (-1 : Int64) (0 : Int32) (1 : Int32)))] _
      refine own_go (fun t₀ k₀ => XT.lcmp X11.here hx rfl (Jvm.hb hby at_209) rfl k₀) ?_
      show Gm p e below T11 m 210 #[iv p0, iv p1, iv p2, iv p3, iv k, iv b2, rv b4, lv (3 : Int64), .second, lv ((p1.toInt64) &&& (2147483647 : Int64)), .second, lv ((p2.toInt64) &&& (2147483647 : Int64)), .second, lv (fMin ((p1.toInt64) &&& (2147483647 : Int64)) ((p2.toInt64) &&& (2147483647 : Int64))), .second, iv b7, lv (-1 : Int64), .second, lv ((((fMin ((p1.toInt64) &&& (2147483647 : Int64)) ((p2.toInt64) &&& (2147483647 : Int64))) + (1 : Int64)) * (3 : Int64)) + (2 : Int64)), .second] [(.int (XT.cmpL (fR (fMin ((p1.toInt64) &&& (2147483647 : Int64)) ((p2.toInt64) &&& (2147483647 : Int64))) (-1 : Int64) (0 : Int32) (1 : Int32)) ((((fMin ((p1.toInt64) &&& (2147483647 : Int64)) ((p2.toInt64) &&& (2147483647 : Int64))) + (1 : Int64)) * (3 : Int64)) + (2 : Int64))))] _
      refine own_go (fun t₀ k₀ => XS.ifNo X11.here hx rfl (Jvm.hb hby at_210) rfl (XT.ll_ne_f (own_fin _ _ _ _ (3 : Int64) _ (by decide) (by rw [if_pos (by decide)]; try rfl))) k₀) ?_
      show Gm p e below T11 m 213 #[iv p0, iv p1, iv p2, iv p3, iv k, iv b2, rv b4, lv (3 : Int64), .second, lv ((p1.toInt64) &&& (2147483647 : Int64)), .second, lv ((p2.toInt64) &&& (2147483647 : Int64)), .second, lv (fMin ((p1.toInt64) &&& (2147483647 : Int64)) ((p2.toInt64) &&& (2147483647 : Int64))), .second, iv b7, lv (-1 : Int64), .second, lv ((((fMin ((p1.toInt64) &&& (2147483647 : Int64)) ((p2.toInt64) &&& (2147483647 : Int64))) + (1 : Int64)) * (3 : Int64)) + (2 : Int64)), .second] [] _
      refine own_go (fun t₀ k₀ => XS.iconst X11.here hx rfl (Jvm.hb hby at_213) k₀) ?_
      show Gm p e below T11 m 214 #[iv p0, iv p1, iv p2, iv p3, iv k, iv b2, rv b4, lv (3 : Int64), .second, lv ((p1.toInt64) &&& (2147483647 : Int64)), .second, lv ((p2.toInt64) &&& (2147483647 : Int64)), .second, lv (fMin ((p1.toInt64) &&& (2147483647 : Int64)) ((p2.toInt64) &&& (2147483647 : Int64))), .second, iv b7, lv (-1 : Int64), .second, lv ((((fMin ((p1.toInt64) &&& (2147483647 : Int64)) ((p2.toInt64) &&& (2147483647 : Int64))) + (1 : Int64)) * (3 : Int64)) + (2 : Int64)), .second] [(.int (1 : Int32))] _
      refine own_go (fun t₀ k₀ => XS.goto X11.here hx rfl (pc0 := 214) (pc' := 218) rfl (Jvm.hb hby at_214) (by decide) (by decide) k₀) ?_
      show Gm p e below T11 m 218 #[iv p0, iv p1, iv p2, iv p3, iv k, iv b2, rv b4, lv (3 : Int64), .second, lv ((p1.toInt64) &&& (2147483647 : Int64)), .second, lv ((p2.toInt64) &&& (2147483647 : Int64)), .second, lv (fMin ((p1.toInt64) &&& (2147483647 : Int64)) ((p2.toInt64) &&& (2147483647 : Int64))), .second, iv b7, lv (-1 : Int64), .second, lv ((((fMin ((p1.toInt64) &&& (2147483647 : Int64)) ((p2.toInt64) &&& (2147483647 : Int64))) + (1 : Int64)) * (3 : Int64)) + (2 : Int64)), .second] [(.int (1 : Int32))] _
      exact own_retI X11 hx hlk (t := .boolean) Bd.returns rfl (by simp) (Jvm.hb hby at_218) e11 ⟨rfl, N11⟩ (by decide) (by decide)
  · have hfork := trivial
    refine own_go (fun t₀ k₀ => XS.ifYes X0.here hx rfl (pc0 := 20) (pc' := 35) rfl (Jvm.hb hby at_20) rfl (XT.i0_ne_t c3) (by decide) (by decide) k₀) ?_
    show Gm p e below s₁ m 35 #[iv p0, iv p1, iv p2, iv p3, iv k, iv b2, .unset, .unset, .unset, .unset, .unset, .unset, .unset, .unset, .unset, .unset, .unset, .unset, .unset, .unset] [] _
    refine own_go (fun t₀ k₀ => XS.iconst X0.here hx rfl (Jvm.hb hby at_35) k₀) ?_
    show Gm p e below s₁ m 36 #[iv p0, iv p1, iv p2, iv p3, iv k, iv b2, .unset, .unset, .unset, .unset, .unset, .unset, .unset, .unset, .unset, .unset, .unset, .unset, .unset, .unset] [(.int (0 : Int32))] _
    refine own_go (fun t₀ k₀ => XS.iconst X0.here hx rfl (Jvm.hb hby at_36) k₀) ?_
    show Gm p e below s₁ m 37 #[iv p0, iv p1, iv p2, iv p3, iv k, iv b2, .unset, .unset, .unset, .unset, .unset, .unset, .unset, .unset, .unset, .unset, .unset, .unset, .unset, .unset] [(.int (0 : Int32)), (.int (0 : Int32))] _
    refine own_go (fun t₀ k₀ => XS.iload X0.here hx rfl (Jvm.hb hby at_37) rfl k₀) ?_
    show Gm p e below s₁ m 39 #[iv p0, iv p1, iv p2, iv p3, iv k, iv b2, .unset, .unset, .unset, .unset, .unset, .unset, .unset, .unset, .unset, .unset, .unset, .unset, .unset, .unset] [(.int b2), (.int (0 : Int32)), (.int (0 : Int32))] _
    obtain ⟨_, _, ⟨T12, L12, k12, n12⟩, -, X12, ⟨Lc12, hQ12, l12, y12, z12⟩, st12⟩ := Jvm.LawKit.callS X0 hx (y := (⟨"com/example/data_in_bounds/datainbounds/metapath/RegexProgram$Fragment", "of", "(IIZ)Lcom/example/data_in_bounds/datainbounds/metapath/RegexProgram$Fragment;"⟩ : MethodName)) hown (mvT hZ (hw _ (List.mem_of_getElem? (i := 33) rfl))) (mvT hZ (hw _ (List.mem_of_getElem? (i := 34) rfl))) (mvT hZ (hw _ (List.mem_of_getElem? (i := 2) rfl))) (mvT hZ (hw _ (List.mem_of_getElem? (i := 35) rfl))) (by decide) (backOf (W := 0) (rm6 l Z a0 hw [] (0 : Int32) (0 : Int32) b2 h0 n0 Z0 (by rw [hb2]; split <;> simp)) hZ (hw _ (List.mem_of_getElem? (i := 35) rfl)) (hw _ (List.mem_of_getElem? (i := 2) rfl)) (by decide) (by decide)) (g := (mkF m 39 #[iv p0, iv p1, iv p2, iv p3, iv k, iv b2, .unset, .unset, .unset, .unset, .unset, .unset, .unset, .unset, .unset, .unset, .unset, .unset, .unset, .unset] [(.int b2), (.int (0 : Int32)), (.int (0 : Int32))])) rfl (by rw [hml]; rfl) (argsL := [(.int (0 : Int32)), (.int (0 : Int32)), (.int b2)]) (rest := []) (lenOf own_pd5 rfl) rfl (by show 2 * 0 + _ ≤ _; exact Nat.le_of_eq rfl) (Jvm.hb hby at_39) (fun _ _ => ⟨rfl, e0, (by decide : 0 + 2 ≤ _), (by decide : 0 + 12 ≤ _)⟩)
    dsimp only [Pt.U, Pt.locs, Pt.cells, Pt.slots] at X12 l12 y12 z12 st12 hQ12
    subst l12 y12 z12
    obtain ⟨r12, c12, f12, rfl, Nq12, Kc12, hr12, hc12, nrc12, Ec12, Fcode12, Flen12, Fnul12, Fhei12, Ac12⟩ := hQ12
    have N12 := Fr.app N0 Nq12
    refine own_go st12 ?_
    have g_r12 : n0 ≤ r12 := Nat.le_trans Z0 hr12
    have g_c12 : n0 ≤ c12 := Nat.le_trans Z0 hc12
    have Z12 : n0 ≤ T12.heap.size := Nat.le_trans Z0 Kc12.1
    show Gm p e below T12 m 42 #[iv p0, iv p1, iv p2, iv p3, iv k, iv b2, .unset, .unset, .unset, .unset, .unset, .unset, .unset, .unset, .unset, .unset, .unset, .unset, .unset, .unset] [(.ref r12)] _
    refine own_go (fun t₀ k₀ => XS.astore X12.here hx rfl (Jvm.hb hby at_42) rfl rfl (l' := #[iv p0, iv p1, iv p2, iv p3, iv k, iv b2, rv r12, .unset, .unset, .unset, .unset, .unset, .unset, .unset, .unset, .unset, .unset, .unset, .unset, .unset]) rfl k₀) ?_
    show Gm p e below T12 m 44 #[iv p0, iv p1, iv p2, iv p3, iv k, iv b2, rv r12, .unset, .unset, .unset, .unset, .unset, .unset, .unset, .unset, .unset, .unset, .unset, .unset, .unset] [] _
    refine own_go (fun t₀ k₀ => XS.iload X12.here hx rfl (Jvm.hb hby at_44) rfl k₀) ?_
    show Gm p e below T12 m 46 #[iv p0, iv p1, iv p2, iv p3, iv k, iv b2, rv r12, .unset, .unset, .unset, .unset, .unset, .unset, .unset, .unset, .unset, .unset, .unset, .unset, .unset] [(.int k)] _
    refine own_go (fun t₀ k₀ => XS.iconst X12.here hx rfl (Jvm.hb hby at_46) k₀) ?_
    show Gm p e below T12 m 47 #[iv p0, iv p1, iv p2, iv p3, iv k, iv b2, rv r12, .unset, .unset, .unset, .unset, .unset, .unset, .unset, .unset, .unset, .unset, .unset, .unset, .unset] [(.int (2 : Int32)), (.int k)] _
    by_cases c13 : k < (2 : Int32)
    · have hfork := trivial
      refine own_go (fun t₀ k₀ => XS.icmpYes X12.here hx rfl (pc0 := 47) (pc' := 62) rfl (Jvm.hb hby at_47) rfl (XT.ii_lt_t c13) (by decide) (by decide) k₀) ?_
      show Gm p e below T12 m 62 #[iv p0, iv p1, iv p2, iv p3, iv k, iv b2, rv r12, .unset, .unset, .unset, .unset, .unset, .unset, .unset, .unset, .unset, .unset, .unset, .unset, .unset] [] _
      refine own_go (fun t₀ k₀ => XS.iload X12.here hx rfl (Jvm.hb hby at_62) rfl k₀) ?_
      show Gm p e below T12 m 64 #[iv p0, iv p1, iv p2, iv p3, iv k, iv b2, rv r12, .unset, .unset, .unset, .unset, .unset, .unset, .unset, .unset, .unset, .unset, .unset, .unset, .unset] [(.int k)] _
      refine own_go (fun t₀ k₀ => XS.iconst X12.here hx rfl (Jvm.hb hby at_64) k₀) ?_
      show Gm p e below T12 m 65 #[iv p0, iv p1, iv p2, iv p3, iv k, iv b2, rv r12, .unset, .unset, .unset, .unset, .unset, .unset, .unset, .unset, .unset, .unset, .unset, .unset, .unset] [(.int (3 : Int32)), (.int k)] _
      by_cases c14 : k < (3 : Int32)
      · have hfork := trivial
        refine own_go (fun t₀ k₀ => XS.icmpYes X12.here hx rfl (pc0 := 65) (pc' := 80) rfl (Jvm.hb hby at_65) rfl (XT.ii_lt_t c14) (by decide) (by decide) k₀) ?_
        have hk := own_k1 _ c3 (h_k ▸ (own_kr _).1) c13
        show Gm p e below T12 m 80 #[iv p0, iv p1, iv p2, iv p3, iv k, iv b2, rv r12, .unset, .unset, .unset, .unset, .unset, .unset, .unset, .unset, .unset, .unset, .unset, .unset, .unset] [] _
        refine own_go (fun t₀ k₀ => XS.iload X12.here hx rfl (Jvm.hb hby at_80) rfl k₀) ?_
        show Gm p e below T12 m 82 #[iv p0, iv p1, iv p2, iv p3, iv k, iv b2, rv r12, .unset, .unset, .unset, .unset, .unset, .unset, .unset, .unset, .unset, .unset, .unset, .unset, .unset] [(.int k)] _
        refine own_go (fun t₀ k₀ => XS.ifYes X12.here hx rfl (pc0 := 82) (pc' := 91) rfl (Jvm.hb hby at_82) rfl (XT.i0_ne_t c3) (by decide) (by decide) k₀) ?_
        show Gm p e below T12 m 91 #[iv p0, iv p1, iv p2, iv p3, iv k, iv b2, rv r12, .unset, .unset, .unset, .unset, .unset, .unset, .unset, .unset, .unset, .unset, .unset, .unset, .unset] [] _
        refine own_go (fun t₀ k₀ => XS.iload X12.here hx rfl (Jvm.hb hby at_91) rfl k₀) ?_
        show Gm p e below T12 m 93 #[iv p0, iv p1, iv p2, iv p3, iv k, iv b2, rv r12, .unset, .unset, .unset, .unset, .unset, .unset, .unset, .unset, .unset, .unset, .unset, .unset, .unset] [(.int k)] _
        refine own_go (fun t₀ k₀ => XS.i2l X12.here hx rfl (Jvm.hb hby at_93) rfl k₀) ?_
        show Gm p e below T12 m 94 #[iv p0, iv p1, iv p2, iv p3, iv k, iv b2, rv r12, .unset, .unset, .unset, .unset, .unset, .unset, .unset, .unset, .unset, .unset, .unset, .unset, .unset] [(.long (k.toInt64))] _
        refine own_go (fun t₀ k₀ => XS.iload X12.here hx rfl (Jvm.hb hby at_94) rfl k₀) ?_
        show Gm p e below T12 m 96 #[iv p0, iv p1, iv p2, iv p3, iv k, iv b2, rv r12, .unset, .unset, .unset, .unset, .unset, .unset, .unset, .unset, .unset, .unset, .unset, .unset, .unset] [(.int b2), (.long (k.toInt64))] _
        by_cases c15 : b2 = (0 : Int32)
        · have hfork := trivial
          refine own_go (fun t₀ k₀ => XS.ifYes X12.here hx rfl (pc0 := 96) (pc' := 105) rfl (Jvm.hb hby at_96) rfl (XT.i0_eq_t c15) (by decide) (by decide) k₀) ?_
          show Gm p e below T12 m 105 #[iv p0, iv p1, iv p2, iv p3, iv k, iv b2, rv r12, .unset, .unset, .unset, .unset, .unset, .unset, .unset, .unset, .unset, .unset, .unset, .unset, .unset] [(.long (k.toInt64))] _
          refine own_go (fun t₀ k₀ => XS.lconst X12.here hx rfl (Jvm.hb hby at_105) k₀) ?_
          show Gm p e below T12 m 106 #[iv p0, iv p1, iv p2, iv p3, iv k, iv b2, rv r12, .unset, .unset, .unset, .unset, .unset, .unset, .unset, .unset, .unset, .unset, .unset, .unset, .unset] [(.long (0 : Int64)), (.long (k.toInt64))] _
          refine own_go (fun t₀ k₀ => XS.ladd X12.here hx rfl (Jvm.hb hby at_106) rfl k₀) ?_
          show Gm p e below T12 m 107 #[iv p0, iv p1, iv p2, iv p3, iv k, iv b2, rv r12, .unset, .unset, .unset, .unset, .unset, .unset, .unset, .unset, .unset, .unset, .unset, .unset, .unset] [(.long ((k.toInt64) + (0 : Int64)))] _
          refine own_go (fun t₀ k₀ => XS.lstore X12.here hx rfl (Jvm.hb hby at_107) rfl (l' := #[iv p0, iv p1, iv p2, iv p3, iv k, iv b2, rv r12, lv ((k.toInt64) + (0 : Int64)), .second, .unset, .unset, .unset, .unset, .unset, .unset, .unset, .unset, .unset, .unset, .unset]) rfl k₀) ?_
          show Gm p e below T12 m 109 #[iv p0, iv p1, iv p2, iv p3, iv k, iv b2, rv r12, lv ((k.toInt64) + (0 : Int64)), .second, .unset, .unset, .unset, .unset, .unset, .unset, .unset, .unset, .unset, .unset, .unset] [] _
          refine own_go (fun t₀ k₀ => XS.iloadN X12.here hx rfl (Jvm.hb hby at_109) rfl k₀) ?_
          show Gm p e below T12 m 110 #[iv p0, iv p1, iv p2, iv p3, iv k, iv b2, rv r12, lv ((k.toInt64) + (0 : Int64)), .second, .unset, .unset, .unset, .unset, .unset, .unset, .unset, .unset, .unset, .unset, .unset] [(.int p1)] _
          refine own_go (fun t₀ k₀ => XS.i2l X12.here hx rfl (Jvm.hb hby at_110) rfl k₀) ?_
          show Gm p e below T12 m 111 #[iv p0, iv p1, iv p2, iv p3, iv k, iv b2, rv r12, lv ((k.toInt64) + (0 : Int64)), .second, .unset, .unset, .unset, .unset, .unset, .unset, .unset, .unset, .unset, .unset, .unset] [(.long (p1.toInt64))] _
          refine own_go (fun t₀ k₀ => X12.ldc2J hx hown (mvT hZ (hw _ (List.mem_of_getElem? (i := 15) rfl))) rfl (Jvm.hb hby at_111) k₀) ?_
          show Gm p e below T12 m 114 #[iv p0, iv p1, iv p2, iv p3, iv k, iv b2, rv r12, lv ((k.toInt64) + (0 : Int64)), .second, .unset, .unset, .unset, .unset, .unset, .unset, .unset, .unset, .unset, .unset, .unset] [(.long (2147483647 : Int64)), (.long (p1.toInt64))] _
          refine own_go (fun t₀ k₀ => XS.land X12.here hx rfl (Jvm.hb hby at_114) rfl k₀) ?_
          show Gm p e below T12 m 115 #[iv p0, iv p1, iv p2, iv p3, iv k, iv b2, rv r12, lv ((k.toInt64) + (0 : Int64)), .second, .unset, .unset, .unset, .unset, .unset, .unset, .unset, .unset, .unset, .unset, .unset] [(.long ((p1.toInt64) &&& (2147483647 : Int64)))] _
          refine own_go (fun t₀ k₀ => XS.lstore X12.here hx rfl (Jvm.hb hby at_115) rfl (l' := #[iv p0, iv p1, iv p2, iv p3, iv k, iv b2, rv r12, lv ((k.toInt64) + (0 : Int64)), .second, lv ((p1.toInt64) &&& (2147483647 : Int64)), .second, .unset, .unset, .unset, .unset, .unset, .unset, .unset, .unset, .unset]) rfl k₀) ?_
          show Gm p e below T12 m 117 #[iv p0, iv p1, iv p2, iv p3, iv k, iv b2, rv r12, lv ((k.toInt64) + (0 : Int64)), .second, lv ((p1.toInt64) &&& (2147483647 : Int64)), .second, .unset, .unset, .unset, .unset, .unset, .unset, .unset, .unset, .unset] [] _
          refine own_go (fun t₀ k₀ => XS.iloadN X12.here hx rfl (Jvm.hb hby at_117) rfl k₀) ?_
          show Gm p e below T12 m 118 #[iv p0, iv p1, iv p2, iv p3, iv k, iv b2, rv r12, lv ((k.toInt64) + (0 : Int64)), .second, lv ((p1.toInt64) &&& (2147483647 : Int64)), .second, .unset, .unset, .unset, .unset, .unset, .unset, .unset, .unset, .unset] [(.int p2)] _
          refine own_go (fun t₀ k₀ => XS.i2l X12.here hx rfl (Jvm.hb hby at_118) rfl k₀) ?_
          show Gm p e below T12 m 119 #[iv p0, iv p1, iv p2, iv p3, iv k, iv b2, rv r12, lv ((k.toInt64) + (0 : Int64)), .second, lv ((p1.toInt64) &&& (2147483647 : Int64)), .second, .unset, .unset, .unset, .unset, .unset, .unset, .unset, .unset, .unset] [(.long (p2.toInt64))] _
          refine own_go (fun t₀ k₀ => X12.ldc2J hx hown (mvT hZ (hw _ (List.mem_of_getElem? (i := 15) rfl))) rfl (Jvm.hb hby at_119) k₀) ?_
          show Gm p e below T12 m 122 #[iv p0, iv p1, iv p2, iv p3, iv k, iv b2, rv r12, lv ((k.toInt64) + (0 : Int64)), .second, lv ((p1.toInt64) &&& (2147483647 : Int64)), .second, .unset, .unset, .unset, .unset, .unset, .unset, .unset, .unset, .unset] [(.long (2147483647 : Int64)), (.long (p2.toInt64))] _
          refine own_go (fun t₀ k₀ => XS.land X12.here hx rfl (Jvm.hb hby at_122) rfl k₀) ?_
          show Gm p e below T12 m 123 #[iv p0, iv p1, iv p2, iv p3, iv k, iv b2, rv r12, lv ((k.toInt64) + (0 : Int64)), .second, lv ((p1.toInt64) &&& (2147483647 : Int64)), .second, .unset, .unset, .unset, .unset, .unset, .unset, .unset, .unset, .unset] [(.long ((p2.toInt64) &&& (2147483647 : Int64)))] _
          refine own_go (fun t₀ k₀ => XS.lstore X12.here hx rfl (Jvm.hb hby at_123) rfl (l' := #[iv p0, iv p1, iv p2, iv p3, iv k, iv b2, rv r12, lv ((k.toInt64) + (0 : Int64)), .second, lv ((p1.toInt64) &&& (2147483647 : Int64)), .second, lv ((p2.toInt64) &&& (2147483647 : Int64)), .second, .unset, .unset, .unset, .unset, .unset, .unset, .unset]) rfl k₀) ?_
          have hp := own_p p1.toInt64
          have hq := own_p p2.toInt64
          show Gm p e below T12 m 125 #[iv p0, iv p1, iv p2, iv p3, iv k, iv b2, rv r12, lv ((k.toInt64) + (0 : Int64)), .second, lv ((p1.toInt64) &&& (2147483647 : Int64)), .second, lv ((p2.toInt64) &&& (2147483647 : Int64)), .second, .unset, .unset, .unset, .unset, .unset, .unset, .unset] [] _
          refine own_go (fun t₀ k₀ => XS.lload X12.here hx rfl (Jvm.hb hby at_125) rfl k₀) ?_
          show Gm p e below T12 m 127 #[iv p0, iv p1, iv p2, iv p3, iv k, iv b2, rv r12, lv ((k.toInt64) + (0 : Int64)), .second, lv ((p1.toInt64) &&& (2147483647 : Int64)), .second, lv ((p2.toInt64) &&& (2147483647 : Int64)), .second, .unset, .unset, .unset, .unset, .unset, .unset, .unset] [(.long ((p1.toInt64) &&& (2147483647 : Int64)))] _
          refine own_go (fun t₀ k₀ => XS.lload X12.here hx rfl (Jvm.hb hby at_127) rfl k₀) ?_
          show Gm p e below T12 m 129 #[iv p0, iv p1, iv p2, iv p3, iv k, iv b2, rv r12, lv ((k.toInt64) + (0 : Int64)), .second, lv ((p1.toInt64) &&& (2147483647 : Int64)), .second, lv ((p2.toInt64) &&& (2147483647 : Int64)), .second, .unset, .unset, .unset, .unset, .unset, .unset, .unset] [(.long ((p2.toInt64) &&& (2147483647 : Int64))), (.long ((p1.toInt64) &&& (2147483647 : Int64)))] _
          obtain ⟨_, _, ⟨T16, L16, k16, n16⟩, -, X16, ⟨Lc16, hQ16, l16, y16, z16⟩, st16⟩ := Jvm.LawKit.callS X12 hx (y := (⟨"java/lang/Math", "min", "(JJ)J"⟩ : MethodName)) hown (mvT hZ (hw _ (List.mem_of_getElem? (i := 16) rfl))) (mvT hZ (hw _ (List.mem_of_getElem? (i := 17) rfl))) (mvT hZ (hw _ (List.mem_of_getElem? (i := 18) rfl))) (mvT hZ (hw _ (List.mem_of_getElem? (i := 19) rfl))) (by decide) (backOf (W := 0) (rm3 l Z a0 hw [] ((p1.toInt64) &&& (2147483647 : Int64)) ((p2.toInt64) &&& (2147483647 : Int64)) T12.heap n0 Z12) hZ (hw _ (List.mem_of_getElem? (i := 19) rfl)) (hw _ (List.mem_of_getElem? (i := 18) rfl)) (by decide) (by decide)) (g := (mkF m 129 #[iv p0, iv p1, iv p2, iv p3, iv k, iv b2, rv r12, lv ((k.toInt64) + (0 : Int64)), .second, lv ((p1.toInt64) &&& (2147483647 : Int64)), .second, lv ((p2.toInt64) &&& (2147483647 : Int64)), .second, .unset, .unset, .unset, .unset, .unset, .unset, .unset] [(.long ((p2.toInt64) &&& (2147483647 : Int64))), (.long ((p1.toInt64) &&& (2147483647 : Int64)))])) rfl (by rw [hml]; rfl) (argsL := [(.long ((p1.toInt64) &&& (2147483647 : Int64))), (.long ((p2.toInt64) &&& (2147483647 : Int64)))]) (rest := []) (lenOf own_pd4 rfl) rfl (by show 2 * 0 + _ ≤ _; exact Nat.le_of_eq rfl) (Jvm.hb hby at_129) (fun _ _ => ⟨rfl, rfl, (by decide : 2 + 0 ≤ _), (by decide : 12 + 0 ≤ _)⟩)
          dsimp only [Pt.U, Pt.locs, Pt.cells, Pt.slots] at X16 l16 y16 z16 st16 hQ16
          subst l16 y16 z16
          obtain ⟨rfl, Nq16, eq16⟩ := hQ16
          have N16 := Fr.app N12 Nq16
          have e16 : T16.heap = T12.heap := eq16
          refine own_go st16 ?_
          show Gm p e below T16 m 132 #[iv p0, iv p1, iv p2, iv p3, iv k, iv b2, rv r12, lv ((k.toInt64) + (0 : Int64)), .second, lv ((p1.toInt64) &&& (2147483647 : Int64)), .second, lv ((p2.toInt64) &&& (2147483647 : Int64)), .second, .unset, .unset, .unset, .unset, .unset, .unset, .unset] [(.long (fMin ((p1.toInt64) &&& (2147483647 : Int64)) ((p2.toInt64) &&& (2147483647 : Int64))))] _
          refine own_go (fun t₀ k₀ => XS.lstore X16.here hx rfl (Jvm.hb hby at_132) rfl (l' := #[iv p0, iv p1, iv p2, iv p3, iv k, iv b2, rv r12, lv ((k.toInt64) + (0 : Int64)), .second, lv ((p1.toInt64) &&& (2147483647 : Int64)), .second, lv ((p2.toInt64) &&& (2147483647 : Int64)), .second, lv (fMin ((p1.toInt64) &&& (2147483647 : Int64)) ((p2.toInt64) &&& (2147483647 : Int64))), .second, .unset, .unset, .unset, .unset, .unset]) rfl k₀) ?_
          show Gm p e below T16 m 134 #[iv p0, iv p1, iv p2, iv p3, iv k, iv b2, rv r12, lv ((k.toInt64) + (0 : Int64)), .second, lv ((p1.toInt64) &&& (2147483647 : Int64)), .second, lv ((p2.toInt64) &&& (2147483647 : Int64)), .second, lv (fMin ((p1.toInt64) &&& (2147483647 : Int64)) ((p2.toInt64) &&& (2147483647 : Int64))), .second, .unset, .unset, .unset, .unset, .unset] [] _
          refine own_go (fun t₀ k₀ => XS.iloadN X16.here hx rfl (Jvm.hb hby at_134) rfl k₀) ?_
          show Gm p e below T16 m 135 #[iv p0, iv p1, iv p2, iv p3, iv k, iv b2, rv r12, lv ((k.toInt64) + (0 : Int64)), .second, lv ((p1.toInt64) &&& (2147483647 : Int64)), .second, lv ((p2.toInt64) &&& (2147483647 : Int64)), .second, lv (fMin ((p1.toInt64) &&& (2147483647 : Int64)) ((p2.toInt64) &&& (2147483647 : Int64))), .second, .unset, .unset, .unset, .unset, .unset] [(.int p3)] _
          refine own_go (fun t₀ k₀ => XS.iconst X16.here hx rfl (Jvm.hb hby at_135) k₀) ?_
          show Gm p e below T16 m 136 #[iv p0, iv p1, iv p2, iv p3, iv k, iv b2, rv r12, lv ((k.toInt64) + (0 : Int64)), .second, lv ((p1.toInt64) &&& (2147483647 : Int64)), .second, lv ((p2.toInt64) &&& (2147483647 : Int64)), .second, lv (fMin ((p1.toInt64) &&& (2147483647 : Int64)) ((p2.toInt64) &&& (2147483647 : Int64))), .second, .unset, .unset, .unset, .unset, .unset] [(.int (1 : Int32)), (.int p3)] _
          refine own_go (fun t₀ k₀ => XS.iand X16.here hx rfl (Jvm.hb hby at_136) rfl k₀) ?_
          show Gm p e below T16 m 137 #[iv p0, iv p1, iv p2, iv p3, iv k, iv b2, rv r12, lv ((k.toInt64) + (0 : Int64)), .second, lv ((p1.toInt64) &&& (2147483647 : Int64)), .second, lv ((p2.toInt64) &&& (2147483647 : Int64)), .second, lv (fMin ((p1.toInt64) &&& (2147483647 : Int64)) ((p2.toInt64) &&& (2147483647 : Int64))), .second, .unset, .unset, .unset, .unset, .unset] [(.int (p3 &&& (1 : Int32)))] _
          obtain ⟨b17, hb17, k17⟩ : ∃ z : Int32, z = (if (p3 &&& (1 : Int32)) = (0 : Int32) then (0 : Int32) else (1 : Int32)) ∧ ∀ t, Steps p.tables e below (T16.setTop (mkF m 145 #[iv p0, iv p1, iv p2, iv p3, iv k, iv b2, rv r12, lv ((k.toInt64) + (0 : Int64)), .second, lv ((p1.toInt64) &&& (2147483647 : Int64)), .second, lv ((p2.toInt64) &&& (2147483647 : Int64)), .second, lv (fMin ((p1.toInt64) &&& (2147483647 : Int64)) ((p2.toInt64) &&& (2147483647 : Int64))), .second, .unset, .unset, .unset, .unset, .unset] [(.int z)])) t → Steps p.tables e below (T16.setTop (mkF m 137 #[iv p0, iv p1, iv p2, iv p3, iv k, iv b2, rv r12, lv ((k.toInt64) + (0 : Int64)), .second, lv ((p1.toInt64) &&& (2147483647 : Int64)), .second, lv ((p2.toInt64) &&& (2147483647 : Int64)), .second, lv (fMin ((p1.toInt64) &&& (2147483647 : Int64)) ((p2.toInt64) &&& (2147483647 : Int64))), .second, .unset, .unset, .unset, .unset, .unset] [(.int (p3 &&& (1 : Int32)))])) t := by
            by_cases hq : (p3 &&& (1 : Int32)) = (0 : Int32)
            · refine ⟨(0 : Int32), by rw [if_pos hq], fun t₀ k₀ => ?_⟩
              refine XS.ifYes X16.here hx rfl (pc0 := 137) (pc' := 144) rfl (Jvm.hb hby at_137) rfl (XT.i0_eq_t hq) (by decide) (by decide) ?_
              refine XS.iconst X16.here hx rfl (Jvm.hb hby at_144) ?_
              exact k₀
            · refine ⟨(1 : Int32), by rw [if_neg hq], fun t₀ k₀ => ?_⟩
              refine XS.ifNo X16.here hx rfl (Jvm.hb hby at_137) rfl (XT.i0_eq_f hq) ?_
              refine XS.iconst X16.here hx rfl (Jvm.hb hby at_140) ?_
              refine XS.goto X16.here hx rfl (pc0 := 141) (pc' := 145) rfl (Jvm.hb hby at_141) (by decide) (by decide) ?_
              exact k₀
          refine own_go k17 ?_
          show Gm p e below T16 m 145 #[iv p0, iv p1, iv p2, iv p3, iv k, iv b2, rv r12, lv ((k.toInt64) + (0 : Int64)), .second, lv ((p1.toInt64) &&& (2147483647 : Int64)), .second, lv ((p2.toInt64) &&& (2147483647 : Int64)), .second, lv (fMin ((p1.toInt64) &&& (2147483647 : Int64)) ((p2.toInt64) &&& (2147483647 : Int64))), .second, .unset, .unset, .unset, .unset, .unset] [(.int b17)] _
          refine own_go (fun t₀ k₀ => XS.istore X16.here hx rfl (Jvm.hb hby at_145) rfl (l' := #[iv p0, iv p1, iv p2, iv p3, iv k, iv b2, rv r12, lv ((k.toInt64) + (0 : Int64)), .second, lv ((p1.toInt64) &&& (2147483647 : Int64)), .second, lv ((p2.toInt64) &&& (2147483647 : Int64)), .second, lv (fMin ((p1.toInt64) &&& (2147483647 : Int64)) ((p2.toInt64) &&& (2147483647 : Int64))), .second, iv b17, .unset, .unset, .unset, .unset]) rfl k₀) ?_
          show Gm p e below T16 m 147 #[iv p0, iv p1, iv p2, iv p3, iv k, iv b2, rv r12, lv ((k.toInt64) + (0 : Int64)), .second, lv ((p1.toInt64) &&& (2147483647 : Int64)), .second, lv ((p2.toInt64) &&& (2147483647 : Int64)), .second, lv (fMin ((p1.toInt64) &&& (2147483647 : Int64)) ((p2.toInt64) &&& (2147483647 : Int64))), .second, iv b17, .unset, .unset, .unset, .unset] [] _
          refine own_go (fun t₀ k₀ => XS.iload X16.here hx rfl (Jvm.hb hby at_147) rfl k₀) ?_
          show Gm p e below T16 m 149 #[iv p0, iv p1, iv p2, iv p3, iv k, iv b2, rv r12, lv ((k.toInt64) + (0 : Int64)), .second, lv ((p1.toInt64) &&& (2147483647 : Int64)), .second, lv ((p2.toInt64) &&& (2147483647 : Int64)), .second, lv (fMin ((p1.toInt64) &&& (2147483647 : Int64)) ((p2.toInt64) &&& (2147483647 : Int64))), .second, iv b17, .unset, .unset, .unset, .unset] [(.int b17)] _
          by_cases c18 : b17 = (0 : Int32)
          · have hfork := trivial
            refine own_go (fun t₀ k₀ => XS.ifYes X16.here hx rfl (pc0 := 149) (pc' := 158) rfl (Jvm.hb hby at_149) rfl (XT.i0_eq_t c18) (by decide) (by decide) k₀) ?_
            show Gm p e below T16 m 158 #[iv p0, iv p1, iv p2, iv p3, iv k, iv b2, rv r12, lv ((k.toInt64) + (0 : Int64)), .second, lv ((p1.toInt64) &&& (2147483647 : Int64)), .second, lv ((p2.toInt64) &&& (2147483647 : Int64)), .second, lv (fMin ((p1.toInt64) &&& (2147483647 : Int64)) ((p2.toInt64) &&& (2147483647 : Int64))), .second, iv b17, .unset, .unset, .unset, .unset] [] _
            refine own_go (fun t₀ k₀ => XS.lload X16.here hx rfl (Jvm.hb hby at_158) rfl k₀) ?_
            show Gm p e below T16 m 160 #[iv p0, iv p1, iv p2, iv p3, iv k, iv b2, rv r12, lv ((k.toInt64) + (0 : Int64)), .second, lv ((p1.toInt64) &&& (2147483647 : Int64)), .second, lv ((p2.toInt64) &&& (2147483647 : Int64)), .second, lv (fMin ((p1.toInt64) &&& (2147483647 : Int64)) ((p2.toInt64) &&& (2147483647 : Int64))), .second, iv b17, .unset, .unset, .unset, .unset] [(.long ((p1.toInt64) &&& (2147483647 : Int64)))] _
            refine own_go (fun t₀ k₀ => XS.lload X16.here hx rfl (Jvm.hb hby at_160) rfl k₀) ?_
            show Gm p e below T16 m 162 #[iv p0, iv p1, iv p2, iv p3, iv k, iv b2, rv r12, lv ((k.toInt64) + (0 : Int64)), .second, lv ((p1.toInt64) &&& (2147483647 : Int64)), .second, lv ((p2.toInt64) &&& (2147483647 : Int64)), .second, lv (fMin ((p1.toInt64) &&& (2147483647 : Int64)) ((p2.toInt64) &&& (2147483647 : Int64))), .second, iv b17, .unset, .unset, .unset, .unset] [(.long ((p2.toInt64) &&& (2147483647 : Int64))), (.long ((p1.toInt64) &&& (2147483647 : Int64)))] _
            obtain ⟨_, _, ⟨T19, L19, k19, n19⟩, -, X19, ⟨Lc19, hQ19, l19, y19, z19⟩, st19⟩ := Jvm.LawKit.callS X16 hx (y := (⟨"java/lang/Math", "max", "(JJ)J"⟩ : MethodName)) hown (mvT hZ (hw _ (List.mem_of_getElem? (i := 30) rfl))) (mvT hZ (hw _ (List.mem_of_getElem? (i := 31) rfl))) (mvT hZ (hw _ (List.mem_of_getElem? (i := 18) rfl))) (mvT hZ (hw _ (List.mem_of_getElem? (i := 32) rfl))) (by decide) (backOf (W := 0) (rm5 l Z a0 hw [] ((p1.toInt64) &&& (2147483647 : Int64)) ((p2.toInt64) &&& (2147483647 : Int64)) T12.heap n0 Z12) hZ (hw _ (List.mem_of_getElem? (i := 32) rfl)) (hw _ (List.mem_of_getElem? (i := 18) rfl)) (by decide) (by decide)) (g := (mkF m 162 #[iv p0, iv p1, iv p2, iv p3, iv k, iv b2, rv r12, lv ((k.toInt64) + (0 : Int64)), .second, lv ((p1.toInt64) &&& (2147483647 : Int64)), .second, lv ((p2.toInt64) &&& (2147483647 : Int64)), .second, lv (fMin ((p1.toInt64) &&& (2147483647 : Int64)) ((p2.toInt64) &&& (2147483647 : Int64))), .second, iv b17, .unset, .unset, .unset, .unset] [(.long ((p2.toInt64) &&& (2147483647 : Int64))), (.long ((p1.toInt64) &&& (2147483647 : Int64)))])) rfl (by rw [hml]; rfl) (argsL := [(.long ((p1.toInt64) &&& (2147483647 : Int64))), (.long ((p2.toInt64) &&& (2147483647 : Int64)))]) (rest := []) (lenOf own_pd4 rfl) rfl (by show 2 * 0 + _ ≤ _; exact Nat.le_of_eq rfl) (Jvm.hb hby at_162) (fun _ _ => ⟨rfl, e16, (by decide : 2 + 0 ≤ _), (by decide : 12 + 0 ≤ _)⟩)
            dsimp only [Pt.U, Pt.locs, Pt.cells, Pt.slots] at X19 l19 y19 z19 st19 hQ19
            subst l19 y19 z19
            obtain ⟨rfl, Nq19, eq19⟩ := hQ19
            have N19 := Fr.app N16 Nq19
            have e19 : T19.heap = T12.heap := eq19
            refine own_go st19 ?_
            show Gm p e below T19 m 165 #[iv p0, iv p1, iv p2, iv p3, iv k, iv b2, rv r12, lv ((k.toInt64) + (0 : Int64)), .second, lv ((p1.toInt64) &&& (2147483647 : Int64)), .second, lv ((p2.toInt64) &&& (2147483647 : Int64)), .second, lv (fMin ((p1.toInt64) &&& (2147483647 : Int64)) ((p2.toInt64) &&& (2147483647 : Int64))), .second, iv b17, .unset, .unset, .unset, .unset] [(.long (fMax ((p1.toInt64) &&& (2147483647 : Int64)) ((p2.toInt64) &&& (2147483647 : Int64))))] _
            refine own_go (fun t₀ k₀ => XS.lstore X19.here hx rfl (Jvm.hb hby at_165) rfl (l' := #[iv p0, iv p1, iv p2, iv p3, iv k, iv b2, rv r12, lv ((k.toInt64) + (0 : Int64)), .second, lv ((p1.toInt64) &&& (2147483647 : Int64)), .second, lv ((p2.toInt64) &&& (2147483647 : Int64)), .second, lv (fMin ((p1.toInt64) &&& (2147483647 : Int64)) ((p2.toInt64) &&& (2147483647 : Int64))), .second, iv b17, lv (fMax ((p1.toInt64) &&& (2147483647 : Int64)) ((p2.toInt64) &&& (2147483647 : Int64))), .second, .unset, .unset]) rfl k₀) ?_
            show Gm p e below T19 m 167 #[iv p0, iv p1, iv p2, iv p3, iv k, iv b2, rv r12, lv ((k.toInt64) + (0 : Int64)), .second, lv ((p1.toInt64) &&& (2147483647 : Int64)), .second, lv ((p2.toInt64) &&& (2147483647 : Int64)), .second, lv (fMin ((p1.toInt64) &&& (2147483647 : Int64)) ((p2.toInt64) &&& (2147483647 : Int64))), .second, iv b17, lv (fMax ((p1.toInt64) &&& (2147483647 : Int64)) ((p2.toInt64) &&& (2147483647 : Int64))), .second, .unset, .unset] [] _
            refine own_go (fun t₀ k₀ => XS.iload X19.here hx rfl (Jvm.hb hby at_167) rfl k₀) ?_
            show Gm p e below T19 m 169 #[iv p0, iv p1, iv p2, iv p3, iv k, iv b2, rv r12, lv ((k.toInt64) + (0 : Int64)), .second, lv ((p1.toInt64) &&& (2147483647 : Int64)), .second, lv ((p2.toInt64) &&& (2147483647 : Int64)), .second, lv (fMin ((p1.toInt64) &&& (2147483647 : Int64)) ((p2.toInt64) &&& (2147483647 : Int64))), .second, iv b17, lv (fMax ((p1.toInt64) &&& (2147483647 : Int64)) ((p2.toInt64) &&& (2147483647 : Int64))), .second, .unset, .unset] [(.int b17)] _
            refine own_go (fun t₀ k₀ => XS.ifYes X19.here hx rfl (pc0 := 169) (pc' := 186) rfl (Jvm.hb hby at_169) rfl (XT.i0_eq_t c18) (by decide) (by decide) k₀) ?_
            show Gm p e below T19 m 186 #[iv p0, iv p1, iv p2, iv p3, iv k, iv b2, rv r12, lv ((k.toInt64) + (0 : Int64)), .second, lv ((p1.toInt64) &&& (2147483647 : Int64)), .second, lv ((p2.toInt64) &&& (2147483647 : Int64)), .second, lv (fMin ((p1.toInt64) &&& (2147483647 : Int64)) ((p2.toInt64) &&& (2147483647 : Int64))), .second, iv b17, lv (fMax ((p1.toInt64) &&& (2147483647 : Int64)) ((p2.toInt64) &&& (2147483647 : Int64))), .second, .unset, .unset] [] _
            refine own_go (fun t₀ k₀ => XS.lload X19.here hx rfl (Jvm.hb hby at_186) rfl k₀) ?_
            show Gm p e below T19 m 188 #[iv p0, iv p1, iv p2, iv p3, iv k, iv b2, rv r12, lv ((k.toInt64) + (0 : Int64)), .second, lv ((p1.toInt64) &&& (2147483647 : Int64)), .second, lv ((p2.toInt64) &&& (2147483647 : Int64)), .second, lv (fMin ((p1.toInt64) &&& (2147483647 : Int64)) ((p2.toInt64) &&& (2147483647 : Int64))), .second, iv b17, lv (fMax ((p1.toInt64) &&& (2147483647 : Int64)) ((p2.toInt64) &&& (2147483647 : Int64))), .second, .unset, .unset] [(.long (fMax ((p1.toInt64) &&& (2147483647 : Int64)) ((p2.toInt64) &&& (2147483647 : Int64))))] _
            refine own_go (fun t₀ k₀ => XS.lload X19.here hx rfl (Jvm.hb hby at_188) rfl k₀) ?_
            show Gm p e below T19 m 190 #[iv p0, iv p1, iv p2, iv p3, iv k, iv b2, rv r12, lv ((k.toInt64) + (0 : Int64)), .second, lv ((p1.toInt64) &&& (2147483647 : Int64)), .second, lv ((p2.toInt64) &&& (2147483647 : Int64)), .second, lv (fMin ((p1.toInt64) &&& (2147483647 : Int64)) ((p2.toInt64) &&& (2147483647 : Int64))), .second, iv b17, lv (fMax ((p1.toInt64) &&& (2147483647 : Int64)) ((p2.toInt64) &&& (2147483647 : Int64))), .second, .unset, .unset] [(.long ((k.toInt64) + (0 : Int64))), (.long (fMax ((p1.toInt64) &&& (2147483647 : Int64)) ((p2.toInt64) &&& (2147483647 : Int64))))] _
            refine own_go (fun t₀ k₀ => XS.lconst X19.here hx rfl (Jvm.hb hby at_190) k₀) ?_
            show Gm p e below T19 m 191 #[iv p0, iv p1, iv p2, iv p3, iv k, iv b2, rv r12, lv ((k.toInt64) + (0 : Int64)), .second, lv ((p1.toInt64) &&& (2147483647 : Int64)), .second, lv ((p2.toInt64) &&& (2147483647 : Int64)), .second, lv (fMin ((p1.toInt64) &&& (2147483647 : Int64)) ((p2.toInt64) &&& (2147483647 : Int64))), .second, iv b17, lv (fMax ((p1.toInt64) &&& (2147483647 : Int64)) ((p2.toInt64) &&& (2147483647 : Int64))), .second, .unset, .unset] [(.long (1 : Int64)), (.long ((k.toInt64) + (0 : Int64))), (.long (fMax ((p1.toInt64) &&& (2147483647 : Int64)) ((p2.toInt64) &&& (2147483647 : Int64))))] _
            refine own_go (fun t₀ k₀ => XS.ladd X19.here hx rfl (Jvm.hb hby at_191) rfl k₀) ?_
            show Gm p e below T19 m 192 #[iv p0, iv p1, iv p2, iv p3, iv k, iv b2, rv r12, lv ((k.toInt64) + (0 : Int64)), .second, lv ((p1.toInt64) &&& (2147483647 : Int64)), .second, lv ((p2.toInt64) &&& (2147483647 : Int64)), .second, lv (fMin ((p1.toInt64) &&& (2147483647 : Int64)) ((p2.toInt64) &&& (2147483647 : Int64))), .second, iv b17, lv (fMax ((p1.toInt64) &&& (2147483647 : Int64)) ((p2.toInt64) &&& (2147483647 : Int64))), .second, .unset, .unset] [(.long (((k.toInt64) + (0 : Int64)) + (1 : Int64))), (.long (fMax ((p1.toInt64) &&& (2147483647 : Int64)) ((p2.toInt64) &&& (2147483647 : Int64))))] _
            refine own_go (fun t₀ k₀ => XS.lmul X19.here hx rfl (Jvm.hb hby at_192) rfl k₀) ?_
            show Gm p e below T19 m 193 #[iv p0, iv p1, iv p2, iv p3, iv k, iv b2, rv r12, lv ((k.toInt64) + (0 : Int64)), .second, lv ((p1.toInt64) &&& (2147483647 : Int64)), .second, lv ((p2.toInt64) &&& (2147483647 : Int64)), .second, lv (fMin ((p1.toInt64) &&& (2147483647 : Int64)) ((p2.toInt64) &&& (2147483647 : Int64))), .second, iv b17, lv (fMax ((p1.toInt64) &&& (2147483647 : Int64)) ((p2.toInt64) &&& (2147483647 : Int64))), .second, .unset, .unset] [(.long ((fMax ((p1.toInt64) &&& (2147483647 : Int64)) ((p2.toInt64) &&& (2147483647 : Int64))) * (((k.toInt64) + (0 : Int64)) + (1 : Int64))))] _
            refine own_go (fun t₀ k₀ => XS.lload X19.here hx rfl (Jvm.hb hby at_193) rfl k₀) ?_
            show Gm p e below T19 m 195 #[iv p0, iv p1, iv p2, iv p3, iv k, iv b2, rv r12, lv ((k.toInt64) + (0 : Int64)), .second, lv ((p1.toInt64) &&& (2147483647 : Int64)), .second, lv ((p2.toInt64) &&& (2147483647 : Int64)), .second, lv (fMin ((p1.toInt64) &&& (2147483647 : Int64)) ((p2.toInt64) &&& (2147483647 : Int64))), .second, iv b17, lv (fMax ((p1.toInt64) &&& (2147483647 : Int64)) ((p2.toInt64) &&& (2147483647 : Int64))), .second, .unset, .unset] [(.long (fMin ((p1.toInt64) &&& (2147483647 : Int64)) ((p2.toInt64) &&& (2147483647 : Int64)))), (.long ((fMax ((p1.toInt64) &&& (2147483647 : Int64)) ((p2.toInt64) &&& (2147483647 : Int64))) * (((k.toInt64) + (0 : Int64)) + (1 : Int64))))] _
            refine own_go (fun t₀ k₀ => XS.lsub X19.here hx rfl (Jvm.hb hby at_195) rfl k₀) ?_
            show Gm p e below T19 m 196 #[iv p0, iv p1, iv p2, iv p3, iv k, iv b2, rv r12, lv ((k.toInt64) + (0 : Int64)), .second, lv ((p1.toInt64) &&& (2147483647 : Int64)), .second, lv ((p2.toInt64) &&& (2147483647 : Int64)), .second, lv (fMin ((p1.toInt64) &&& (2147483647 : Int64)) ((p2.toInt64) &&& (2147483647 : Int64))), .second, iv b17, lv (fMax ((p1.toInt64) &&& (2147483647 : Int64)) ((p2.toInt64) &&& (2147483647 : Int64))), .second, .unset, .unset] [(.long (((fMax ((p1.toInt64) &&& (2147483647 : Int64)) ((p2.toInt64) &&& (2147483647 : Int64))) * (((k.toInt64) + (0 : Int64)) + (1 : Int64))) - (fMin ((p1.toInt64) &&& (2147483647 : Int64)) ((p2.toInt64) &&& (2147483647 : Int64)))))] _
            refine own_go (fun t₀ k₀ => XS.lstore X19.here hx rfl (Jvm.hb hby at_196) rfl (l' := #[iv p0, iv p1, iv p2, iv p3, iv k, iv b2, rv r12, lv ((k.toInt64) + (0 : Int64)), .second, lv ((p1.toInt64) &&& (2147483647 : Int64)), .second, lv ((p2.toInt64) &&& (2147483647 : Int64)), .second, lv (fMin ((p1.toInt64) &&& (2147483647 : Int64)) ((p2.toInt64) &&& (2147483647 : Int64))), .second, iv b17, lv (fMax ((p1.toInt64) &&& (2147483647 : Int64)) ((p2.toInt64) &&& (2147483647 : Int64))), .second, lv (((fMax ((p1.toInt64) &&& (2147483647 : Int64)) ((p2.toInt64) &&& (2147483647 : Int64))) * (((k.toInt64) + (0 : Int64)) + (1 : Int64))) - (fMin ((p1.toInt64) &&& (2147483647 : Int64)) ((p2.toInt64) &&& (2147483647 : Int64)))), .second]) rfl k₀) ?_
            show Gm p e below T19 m 198 #[iv p0, iv p1, iv p2, iv p3, iv k, iv b2, rv r12, lv ((k.toInt64) + (0 : Int64)), .second, lv ((p1.toInt64) &&& (2147483647 : Int64)), .second, lv ((p2.toInt64) &&& (2147483647 : Int64)), .second, lv (fMin ((p1.toInt64) &&& (2147483647 : Int64)) ((p2.toInt64) &&& (2147483647 : Int64))), .second, iv b17, lv (fMax ((p1.toInt64) &&& (2147483647 : Int64)) ((p2.toInt64) &&& (2147483647 : Int64))), .second, lv (((fMax ((p1.toInt64) &&& (2147483647 : Int64)) ((p2.toInt64) &&& (2147483647 : Int64))) * (((k.toInt64) + (0 : Int64)) + (1 : Int64))) - (fMin ((p1.toInt64) &&& (2147483647 : Int64)) ((p2.toInt64) &&& (2147483647 : Int64)))), .second] [] _
            refine own_go (fun t₀ k₀ => XS.aload X19.here hx rfl (Jvm.hb hby at_198) rfl rfl k₀) ?_
            show Gm p e below T19 m 200 #[iv p0, iv p1, iv p2, iv p3, iv k, iv b2, rv r12, lv ((k.toInt64) + (0 : Int64)), .second, lv ((p1.toInt64) &&& (2147483647 : Int64)), .second, lv ((p2.toInt64) &&& (2147483647 : Int64)), .second, lv (fMin ((p1.toInt64) &&& (2147483647 : Int64)) ((p2.toInt64) &&& (2147483647 : Int64))), .second, iv b17, lv (fMax ((p1.toInt64) &&& (2147483647 : Int64)) ((p2.toInt64) &&& (2147483647 : Int64))), .second, lv (((fMax ((p1.toInt64) &&& (2147483647 : Int64)) ((p2.toInt64) &&& (2147483647 : Int64))) * (((k.toInt64) + (0 : Int64)) + (1 : Int64))) - (fMin ((p1.toInt64) &&& (2147483647 : Int64)) ((p2.toInt64) &&& (2147483647 : Int64)))), .second] [(.ref r12)] _
            refine own_go (fun t₀ k₀ => XS.lload X19.here hx rfl (Jvm.hb hby at_200) rfl k₀) ?_
            show Gm p e below T19 m 202 #[iv p0, iv p1, iv p2, iv p3, iv k, iv b2, rv r12, lv ((k.toInt64) + (0 : Int64)), .second, lv ((p1.toInt64) &&& (2147483647 : Int64)), .second, lv ((p2.toInt64) &&& (2147483647 : Int64)), .second, lv (fMin ((p1.toInt64) &&& (2147483647 : Int64)) ((p2.toInt64) &&& (2147483647 : Int64))), .second, iv b17, lv (fMax ((p1.toInt64) &&& (2147483647 : Int64)) ((p2.toInt64) &&& (2147483647 : Int64))), .second, lv (((fMax ((p1.toInt64) &&& (2147483647 : Int64)) ((p2.toInt64) &&& (2147483647 : Int64))) * (((k.toInt64) + (0 : Int64)) + (1 : Int64))) - (fMin ((p1.toInt64) &&& (2147483647 : Int64)) ((p2.toInt64) &&& (2147483647 : Int64)))), .second] [(.long (fMin ((p1.toInt64) &&& (2147483647 : Int64)) ((p2.toInt64) &&& (2147483647 : Int64)))), (.ref r12)] _
            refine own_go (fun t₀ k₀ => XS.lload X19.here hx rfl (Jvm.hb hby at_202) rfl k₀) ?_
            show Gm p e below T19 m 204 #[iv p0, iv p1, iv p2, iv p3, iv k, iv b2, rv r12, lv ((k.toInt64) + (0 : Int64)), .second, lv ((p1.toInt64) &&& (2147483647 : Int64)), .second, lv ((p2.toInt64) &&& (2147483647 : Int64)), .second, lv (fMin ((p1.toInt64) &&& (2147483647 : Int64)) ((p2.toInt64) &&& (2147483647 : Int64))), .second, iv b17, lv (fMax ((p1.toInt64) &&& (2147483647 : Int64)) ((p2.toInt64) &&& (2147483647 : Int64))), .second, lv (((fMax ((p1.toInt64) &&& (2147483647 : Int64)) ((p2.toInt64) &&& (2147483647 : Int64))) * (((k.toInt64) + (0 : Int64)) + (1 : Int64))) - (fMin ((p1.toInt64) &&& (2147483647 : Int64)) ((p2.toInt64) &&& (2147483647 : Int64)))), .second] [(.long (fMax ((p1.toInt64) &&& (2147483647 : Int64)) ((p2.toInt64) &&& (2147483647 : Int64)))), (.long (fMin ((p1.toInt64) &&& (2147483647 : Int64)) ((p2.toInt64) &&& (2147483647 : Int64)))), (.ref r12)] _
            obtain ⟨cq20, kq20, q20a, q20b, q20c⟩ := isOf hZ e19 Ec12
            obtain ⟨_, _, ⟨T20, L20, k20, n20⟩, -, X20, ⟨Lc20, hQ20, l20, y20, z20⟩, st20⟩ := X19.virtualBack hx (y := (⟨"com/example/data_in_bounds/datainbounds/metapath/RegexProgram$Fragment", "repeatedLength", "(JJ)J"⟩ : MethodName)) (z := (⟨"com/example/data_in_bounds/datainbounds/metapath/RegexProgram$Fragment", "repeatedLength", "(JJ)J"⟩ : MethodName)) hown (mvT hZ (hw _ (List.mem_of_getElem? (i := 22) rfl))) (mvT hZ (hw _ (List.mem_of_getElem? (i := 23) rfl))) (notFace_of_selects (args := #[]) (mvT hZ (hw _ (List.mem_of_getElem? (i := 25) rfl)))) (mvT hZ (hw _ (List.mem_of_getElem? (i := 25) rfl))) (mvT hZ (hw _ (List.mem_of_getElem? (i := 24) rfl))) (by decide) (backOf (W := 0) (rm4 l Z a0 hw [] r12 (fMin ((p1.toInt64) &&& (2147483647 : Int64)) ((p2.toInt64) &&& (2147483647 : Int64))) (fMax ((p1.toInt64) &&& (2147483647 : Int64)) ((p2.toInt64) &&& (2147483647 : Int64))) (1 : Int32) b2 T12.heap n0 Z12 Flen12 Fnul12) hZ (hw _ (List.mem_of_getElem? (i := 26) rfl)) (hw _ (List.mem_of_getElem? (i := 2) rfl)) (by decide) (by decide)) q20a q20c (g := (mkF m 204 #[iv p0, iv p1, iv p2, iv p3, iv k, iv b2, rv r12, lv ((k.toInt64) + (0 : Int64)), .second, lv ((p1.toInt64) &&& (2147483647 : Int64)), .second, lv ((p2.toInt64) &&& (2147483647 : Int64)), .second, lv (fMin ((p1.toInt64) &&& (2147483647 : Int64)) ((p2.toInt64) &&& (2147483647 : Int64))), .second, iv b17, lv (fMax ((p1.toInt64) &&& (2147483647 : Int64)) ((p2.toInt64) &&& (2147483647 : Int64))), .second, lv (((fMax ((p1.toInt64) &&& (2147483647 : Int64)) ((p2.toInt64) &&& (2147483647 : Int64))) * (((k.toInt64) + (0 : Int64)) + (1 : Int64))) - (fMin ((p1.toInt64) &&& (2147483647 : Int64)) ((p2.toInt64) &&& (2147483647 : Int64)))), .second] [(.long (fMax ((p1.toInt64) &&& (2147483647 : Int64)) ((p2.toInt64) &&& (2147483647 : Int64)))), (.long (fMin ((p1.toInt64) &&& (2147483647 : Int64)) ((p2.toInt64) &&& (2147483647 : Int64)))), (.ref r12)])) rfl (by rw [hml]; rfl) (Steps.refl _) (argsL := [(.long (fMin ((p1.toInt64) &&& (2147483647 : Int64)) ((p2.toInt64) &&& (2147483647 : Int64)))), (.long (fMax ((p1.toInt64) &&& (2147483647 : Int64)) ((p2.toInt64) &&& (2147483647 : Int64))))]) (rest := []) (lenOf own_pd4 rfl) rfl (by show 2 * 0 + _ ≤ _; exact Nat.le_of_eq rfl) (Jvm.hb hby at_204) (fun _ _ => ⟨rfl, e19, (by decide : 2 + 0 ≤ _), (by decide : 12 + 0 ≤ _)⟩)
            dsimp only [Pt.U, Pt.locs, Pt.cells, Pt.slots] at X20 l20 y20 z20 st20 hQ20
            subst l20 y20 z20
            obtain ⟨rfl, Nq20, eq20⟩ := hQ20
            have N20 := Fr.app N19 Nq20
            have e20 : T20.heap = T12.heap := eq20
            refine own_go (fun t k => st20.trans k) ?_
            show Gm p e below T20 m 207 #[iv p0, iv p1, iv p2, iv p3, iv k, iv b2, rv r12, lv ((k.toInt64) + (0 : Int64)), .second, lv ((p1.toInt64) &&& (2147483647 : Int64)), .second, lv ((p2.toInt64) &&& (2147483647 : Int64)), .second, lv (fMin ((p1.toInt64) &&& (2147483647 : Int64)) ((p2.toInt64) &&& (2147483647 : Int64))), .second, iv b17, lv (fMax ((p1.toInt64) &&& (2147483647 : Int64)) ((p2.toInt64) &&& (2147483647 : Int64))), .second, lv (((fMax ((p1.toInt64) &&& (2147483647 : Int64)) ((p2.toInt64) &&& (2147483647 : Int64))) * (((k.toInt64) + (0 : Int64)) + (1 : Int64))) - (fMin ((p1.toInt64) &&& (2147483647 : Int64)) ((p2.toInt64) &&& (2147483647 : Int64)))), .second] [(.long (fR (fMin ((p1.toInt64) &&& (2147483647 : Int64)) ((p2.toInt64) &&& (2147483647 : Int64))) (fMax ((p1.toInt64) &&& (2147483647 : Int64)) ((p2.toInt64) &&& (2147483647 : Int64))) (1 : Int32) b2))] _
            refine own_go (fun t₀ k₀ => XS.lload X20.here hx rfl (Jvm.hb hby at_207) rfl k₀) ?_
            show Gm p e below T20 m 209 #[iv p0, iv p1, iv p2, iv p3, iv k, iv b2, rv r12, lv ((k.toInt64) + (0 : Int64)), .second, lv ((p1.toInt64) &&& (2147483647 : Int64)), .second, lv ((p2.toInt64) &&& (2147483647 : Int64)), .second, lv (fMin ((p1.toInt64) &&& (2147483647 : Int64)) ((p2.toInt64) &&& (2147483647 : Int64))), .second, iv b17, lv (fMax ((p1.toInt64) &&& (2147483647 : Int64)) ((p2.toInt64) &&& (2147483647 : Int64))), .second, lv (((fMax ((p1.toInt64) &&& (2147483647 : Int64)) ((p2.toInt64) &&& (2147483647 : Int64))) * (((k.toInt64) + (0 : Int64)) + (1 : Int64))) - (fMin ((p1.toInt64) &&& (2147483647 : Int64)) ((p2.toInt64) &&& (2147483647 : Int64)))), .second] [(.long (((fMax ((p1.toInt64) &&& (2147483647 : Int64)) ((p2.toInt64) &&& (2147483647 : Int64))) * (((k.toInt64) + (0 : Int64)) + (1 : Int64))) - (fMin ((p1.toInt64) &&& (2147483647 : Int64)) ((p2.toInt64) &&& (2147483647 : Int64))))), (.long (fR (fMin ((p1.toInt64) &&& (2147483647 : Int64)) ((p2.toInt64) &&& (2147483647 : Int64))) (fMax ((p1.toInt64) &&& (2147483647 : Int64)) ((p2.toInt64) &&& (2147483647 : Int64))) (1 : Int32) b2))] _
            refine own_go (fun t₀ k₀ => XT.lcmp X20.here hx rfl (Jvm.hb hby at_209) rfl k₀) ?_
            show Gm p e below T20 m 210 #[iv p0, iv p1, iv p2, iv p3, iv k, iv b2, rv r12, lv ((k.toInt64) + (0 : Int64)), .second, lv ((p1.toInt64) &&& (2147483647 : Int64)), .second, lv ((p2.toInt64) &&& (2147483647 : Int64)), .second, lv (fMin ((p1.toInt64) &&& (2147483647 : Int64)) ((p2.toInt64) &&& (2147483647 : Int64))), .second, iv b17, lv (fMax ((p1.toInt64) &&& (2147483647 : Int64)) ((p2.toInt64) &&& (2147483647 : Int64))), .second, lv (((fMax ((p1.toInt64) &&& (2147483647 : Int64)) ((p2.toInt64) &&& (2147483647 : Int64))) * (((k.toInt64) + (0 : Int64)) + (1 : Int64))) - (fMin ((p1.toInt64) &&& (2147483647 : Int64)) ((p2.toInt64) &&& (2147483647 : Int64)))), .second] [(.int (XT.cmpL (fR (fMin ((p1.toInt64) &&& (2147483647 : Int64)) ((p2.toInt64) &&& (2147483647 : Int64))) (fMax ((p1.toInt64) &&& (2147483647 : Int64)) ((p2.toInt64) &&& (2147483647 : Int64))) (1 : Int32) b2) (((fMax ((p1.toInt64) &&& (2147483647 : Int64)) ((p2.toInt64) &&& (2147483647 : Int64))) * (((k.toInt64) + (0 : Int64)) + (1 : Int64))) - (fMin ((p1.toInt64) &&& (2147483647 : Int64)) ((p2.toInt64) &&& (2147483647 : Int64))))))] _
            refine own_go (fun t₀ k₀ => XS.ifNo X20.here hx rfl (Jvm.hb hby at_210) rfl (XT.ll_ne_f (own_fin _ _ _ _ ((k.toInt64) + (0 : Int64)) _ (by rw [hk, if_pos c15]; decide) (by rw [if_neg (own_max _ _ hp hq)]; try rfl))) k₀) ?_
            show Gm p e below T20 m 213 #[iv p0, iv p1, iv p2, iv p3, iv k, iv b2, rv r12, lv ((k.toInt64) + (0 : Int64)), .second, lv ((p1.toInt64) &&& (2147483647 : Int64)), .second, lv ((p2.toInt64) &&& (2147483647 : Int64)), .second, lv (fMin ((p1.toInt64) &&& (2147483647 : Int64)) ((p2.toInt64) &&& (2147483647 : Int64))), .second, iv b17, lv (fMax ((p1.toInt64) &&& (2147483647 : Int64)) ((p2.toInt64) &&& (2147483647 : Int64))), .second, lv (((fMax ((p1.toInt64) &&& (2147483647 : Int64)) ((p2.toInt64) &&& (2147483647 : Int64))) * (((k.toInt64) + (0 : Int64)) + (1 : Int64))) - (fMin ((p1.toInt64) &&& (2147483647 : Int64)) ((p2.toInt64) &&& (2147483647 : Int64)))), .second] [] _
            refine own_go (fun t₀ k₀ => XS.iconst X20.here hx rfl (Jvm.hb hby at_213) k₀) ?_
            show Gm p e below T20 m 214 #[iv p0, iv p1, iv p2, iv p3, iv k, iv b2, rv r12, lv ((k.toInt64) + (0 : Int64)), .second, lv ((p1.toInt64) &&& (2147483647 : Int64)), .second, lv ((p2.toInt64) &&& (2147483647 : Int64)), .second, lv (fMin ((p1.toInt64) &&& (2147483647 : Int64)) ((p2.toInt64) &&& (2147483647 : Int64))), .second, iv b17, lv (fMax ((p1.toInt64) &&& (2147483647 : Int64)) ((p2.toInt64) &&& (2147483647 : Int64))), .second, lv (((fMax ((p1.toInt64) &&& (2147483647 : Int64)) ((p2.toInt64) &&& (2147483647 : Int64))) * (((k.toInt64) + (0 : Int64)) + (1 : Int64))) - (fMin ((p1.toInt64) &&& (2147483647 : Int64)) ((p2.toInt64) &&& (2147483647 : Int64)))), .second] [(.int (1 : Int32))] _
            refine own_go (fun t₀ k₀ => XS.goto X20.here hx rfl (pc0 := 214) (pc' := 218) rfl (Jvm.hb hby at_214) (by decide) (by decide) k₀) ?_
            show Gm p e below T20 m 218 #[iv p0, iv p1, iv p2, iv p3, iv k, iv b2, rv r12, lv ((k.toInt64) + (0 : Int64)), .second, lv ((p1.toInt64) &&& (2147483647 : Int64)), .second, lv ((p2.toInt64) &&& (2147483647 : Int64)), .second, lv (fMin ((p1.toInt64) &&& (2147483647 : Int64)) ((p2.toInt64) &&& (2147483647 : Int64))), .second, iv b17, lv (fMax ((p1.toInt64) &&& (2147483647 : Int64)) ((p2.toInt64) &&& (2147483647 : Int64))), .second, lv (((fMax ((p1.toInt64) &&& (2147483647 : Int64)) ((p2.toInt64) &&& (2147483647 : Int64))) * (((k.toInt64) + (0 : Int64)) + (1 : Int64))) - (fMin ((p1.toInt64) &&& (2147483647 : Int64)) ((p2.toInt64) &&& (2147483647 : Int64)))), .second] [(.int (1 : Int32))] _
            exact own_retI X20 hx hlk (t := .boolean) Bd.returns rfl (by simp) (Jvm.hb hby at_218) e20 ⟨rfl, N20⟩ (by decide) (by decide)
          · have hfork := trivial
            refine own_go (fun t₀ k₀ => XS.ifNo X16.here hx rfl (Jvm.hb hby at_149) rfl (XT.i0_eq_f c18) k₀) ?_
            show Gm p e below T16 m 152 #[iv p0, iv p1, iv p2, iv p3, iv k, iv b2, rv r12, lv ((k.toInt64) + (0 : Int64)), .second, lv ((p1.toInt64) &&& (2147483647 : Int64)), .second, lv ((p2.toInt64) &&& (2147483647 : Int64)), .second, lv (fMin ((p1.toInt64) &&& (2147483647 : Int64)) ((p2.toInt64) &&& (2147483647 : Int64))), .second, iv b17, .unset, .unset, .unset, .unset] [] _
            refine own_go (fun t₀ k₀ => X16.ldc2J hx hown (mvT hZ (hw _ (List.mem_of_getElem? (i := 20) rfl))) rfl (Jvm.hb hby at_152) k₀) ?_
            show Gm p e below T16 m 155 #[iv p0, iv p1, iv p2, iv p3, iv k, iv b2, rv r12, lv ((k.toInt64) + (0 : Int64)), .second, lv ((p1.toInt64) &&& (2147483647 : Int64)), .second, lv ((p2.toInt64) &&& (2147483647 : Int64)), .second, lv (fMin ((p1.toInt64) &&& (2147483647 : Int64)) ((p2.toInt64) &&& (2147483647 : Int64))), .second, iv b17, .unset, .unset, .unset, .unset] [(.long (-1 : Int64))] _
            refine own_go (fun t₀ k₀ => XS.goto X16.here hx rfl (pc0 := 155) (pc' := 165) rfl (Jvm.hb hby at_155) (by decide) (by decide) k₀) ?_
            show Gm p e below T16 m 165 #[iv p0, iv p1, iv p2, iv p3, iv k, iv b2, rv r12, lv ((k.toInt64) + (0 : Int64)), .second, lv ((p1.toInt64) &&& (2147483647 : Int64)), .second, lv ((p2.toInt64) &&& (2147483647 : Int64)), .second, lv (fMin ((p1.toInt64) &&& (2147483647 : Int64)) ((p2.toInt64) &&& (2147483647 : Int64))), .second, iv b17, .unset, .unset, .unset, .unset] [(.long (-1 : Int64))] _
            refine own_go (fun t₀ k₀ => XS.lstore X16.here hx rfl (Jvm.hb hby at_165) rfl (l' := #[iv p0, iv p1, iv p2, iv p3, iv k, iv b2, rv r12, lv ((k.toInt64) + (0 : Int64)), .second, lv ((p1.toInt64) &&& (2147483647 : Int64)), .second, lv ((p2.toInt64) &&& (2147483647 : Int64)), .second, lv (fMin ((p1.toInt64) &&& (2147483647 : Int64)) ((p2.toInt64) &&& (2147483647 : Int64))), .second, iv b17, lv (-1 : Int64), .second, .unset, .unset]) rfl k₀) ?_
            show Gm p e below T16 m 167 #[iv p0, iv p1, iv p2, iv p3, iv k, iv b2, rv r12, lv ((k.toInt64) + (0 : Int64)), .second, lv ((p1.toInt64) &&& (2147483647 : Int64)), .second, lv ((p2.toInt64) &&& (2147483647 : Int64)), .second, lv (fMin ((p1.toInt64) &&& (2147483647 : Int64)) ((p2.toInt64) &&& (2147483647 : Int64))), .second, iv b17, lv (-1 : Int64), .second, .unset, .unset] [] _
            refine own_go (fun t₀ k₀ => XS.iload X16.here hx rfl (Jvm.hb hby at_167) rfl k₀) ?_
            show Gm p e below T16 m 169 #[iv p0, iv p1, iv p2, iv p3, iv k, iv b2, rv r12, lv ((k.toInt64) + (0 : Int64)), .second, lv ((p1.toInt64) &&& (2147483647 : Int64)), .second, lv ((p2.toInt64) &&& (2147483647 : Int64)), .second, lv (fMin ((p1.toInt64) &&& (2147483647 : Int64)) ((p2.toInt64) &&& (2147483647 : Int64))), .second, iv b17, lv (-1 : Int64), .second, .unset, .unset] [(.int b17)] _
            refine own_go (fun t₀ k₀ => XS.ifNo X16.here hx rfl (Jvm.hb hby at_169) rfl (XT.i0_eq_f c18) k₀) ?_
            show Gm p e below T16 m 172 #[iv p0, iv p1, iv p2, iv p3, iv k, iv b2, rv r12, lv ((k.toInt64) + (0 : Int64)), .second, lv ((p1.toInt64) &&& (2147483647 : Int64)), .second, lv ((p2.toInt64) &&& (2147483647 : Int64)), .second, lv (fMin ((p1.toInt64) &&& (2147483647 : Int64)) ((p2.toInt64) &&& (2147483647 : Int64))), .second, iv b17, lv (-1 : Int64), .second, .unset, .unset] [] _
            refine own_go (fun t₀ k₀ => XS.lload X16.here hx rfl (Jvm.hb hby at_172) rfl k₀) ?_
            show Gm p e below T16 m 174 #[iv p0, iv p1, iv p2, iv p3, iv k, iv b2, rv r12, lv ((k.toInt64) + (0 : Int64)), .second, lv ((p1.toInt64) &&& (2147483647 : Int64)), .second, lv ((p2.toInt64) &&& (2147483647 : Int64)), .second, lv (fMin ((p1.toInt64) &&& (2147483647 : Int64)) ((p2.toInt64) &&& (2147483647 : Int64))), .second, iv b17, lv (-1 : Int64), .second, .unset, .unset] [(.long (fMin ((p1.toInt64) &&& (2147483647 : Int64)) ((p2.toInt64) &&& (2147483647 : Int64))))] _
            refine own_go (fun t₀ k₀ => XS.lconst X16.here hx rfl (Jvm.hb hby at_174) k₀) ?_
            show Gm p e below T16 m 175 #[iv p0, iv p1, iv p2, iv p3, iv k, iv b2, rv r12, lv ((k.toInt64) + (0 : Int64)), .second, lv ((p1.toInt64) &&& (2147483647 : Int64)), .second, lv ((p2.toInt64) &&& (2147483647 : Int64)), .second, lv (fMin ((p1.toInt64) &&& (2147483647 : Int64)) ((p2.toInt64) &&& (2147483647 : Int64))), .second, iv b17, lv (-1 : Int64), .second, .unset, .unset] [(.long (1 : Int64)), (.long (fMin ((p1.toInt64) &&& (2147483647 : Int64)) ((p2.toInt64) &&& (2147483647 : Int64))))] _
            refine own_go (fun t₀ k₀ => XS.ladd X16.here hx rfl (Jvm.hb hby at_175) rfl k₀) ?_
            show Gm p e below T16 m 176 #[iv p0, iv p1, iv p2, iv p3, iv k, iv b2, rv r12, lv ((k.toInt64) + (0 : Int64)), .second, lv ((p1.toInt64) &&& (2147483647 : Int64)), .second, lv ((p2.toInt64) &&& (2147483647 : Int64)), .second, lv (fMin ((p1.toInt64) &&& (2147483647 : Int64)) ((p2.toInt64) &&& (2147483647 : Int64))), .second, iv b17, lv (-1 : Int64), .second, .unset, .unset] [(.long ((fMin ((p1.toInt64) &&& (2147483647 : Int64)) ((p2.toInt64) &&& (2147483647 : Int64))) + (1 : Int64)))] _
            refine own_go (fun t₀ k₀ => XS.lload X16.here hx rfl (Jvm.hb hby at_176) rfl k₀) ?_
            show Gm p e below T16 m 178 #[iv p0, iv p1, iv p2, iv p3, iv k, iv b2, rv r12, lv ((k.toInt64) + (0 : Int64)), .second, lv ((p1.toInt64) &&& (2147483647 : Int64)), .second, lv ((p2.toInt64) &&& (2147483647 : Int64)), .second, lv (fMin ((p1.toInt64) &&& (2147483647 : Int64)) ((p2.toInt64) &&& (2147483647 : Int64))), .second, iv b17, lv (-1 : Int64), .second, .unset, .unset] [(.long ((k.toInt64) + (0 : Int64))), (.long ((fMin ((p1.toInt64) &&& (2147483647 : Int64)) ((p2.toInt64) &&& (2147483647 : Int64))) + (1 : Int64)))] _
            refine own_go (fun t₀ k₀ => XS.lmul X16.here hx rfl (Jvm.hb hby at_178) rfl k₀) ?_
            show Gm p e below T16 m 179 #[iv p0, iv p1, iv p2, iv p3, iv k, iv b2, rv r12, lv ((k.toInt64) + (0 : Int64)), .second, lv ((p1.toInt64) &&& (2147483647 : Int64)), .second, lv ((p2.toInt64) &&& (2147483647 : Int64)), .second, lv (fMin ((p1.toInt64) &&& (2147483647 : Int64)) ((p2.toInt64) &&& (2147483647 : Int64))), .second, iv b17, lv (-1 : Int64), .second, .unset, .unset] [(.long (((fMin ((p1.toInt64) &&& (2147483647 : Int64)) ((p2.toInt64) &&& (2147483647 : Int64))) + (1 : Int64)) * ((k.toInt64) + (0 : Int64))))] _
            refine own_go (fun t₀ k₀ => X16.ldc2J hx hown (mvT hZ (hw _ (List.mem_of_getElem? (i := 21) rfl))) rfl (Jvm.hb hby at_179) k₀) ?_
            show Gm p e below T16 m 182 #[iv p0, iv p1, iv p2, iv p3, iv k, iv b2, rv r12, lv ((k.toInt64) + (0 : Int64)), .second, lv ((p1.toInt64) &&& (2147483647 : Int64)), .second, lv ((p2.toInt64) &&& (2147483647 : Int64)), .second, lv (fMin ((p1.toInt64) &&& (2147483647 : Int64)) ((p2.toInt64) &&& (2147483647 : Int64))), .second, iv b17, lv (-1 : Int64), .second, .unset, .unset] [(.long (2 : Int64)), (.long (((fMin ((p1.toInt64) &&& (2147483647 : Int64)) ((p2.toInt64) &&& (2147483647 : Int64))) + (1 : Int64)) * ((k.toInt64) + (0 : Int64))))] _
            refine own_go (fun t₀ k₀ => XS.ladd X16.here hx rfl (Jvm.hb hby at_182) rfl k₀) ?_
            show Gm p e below T16 m 183 #[iv p0, iv p1, iv p2, iv p3, iv k, iv b2, rv r12, lv ((k.toInt64) + (0 : Int64)), .second, lv ((p1.toInt64) &&& (2147483647 : Int64)), .second, lv ((p2.toInt64) &&& (2147483647 : Int64)), .second, lv (fMin ((p1.toInt64) &&& (2147483647 : Int64)) ((p2.toInt64) &&& (2147483647 : Int64))), .second, iv b17, lv (-1 : Int64), .second, .unset, .unset] [(.long ((((fMin ((p1.toInt64) &&& (2147483647 : Int64)) ((p2.toInt64) &&& (2147483647 : Int64))) + (1 : Int64)) * ((k.toInt64) + (0 : Int64))) + (2 : Int64)))] _
            refine own_go (fun t₀ k₀ => XS.goto X16.here hx rfl (pc0 := 183) (pc' := 196) rfl (Jvm.hb hby at_183) (by decide) (by decide) k₀) ?_
            show Gm p e below T16 m 196 #[iv p0, iv p1, iv p2, iv p3, iv k, iv b2, rv r12, lv ((k.toInt64) + (0 : Int64)), .second, lv ((p1.toInt64) &&& (2147483647 : Int64)), .second, lv ((p2.toInt64) &&& (2147483647 : Int64)), .second, lv (fMin ((p1.toInt64) &&& (2147483647 : Int64)) ((p2.toInt64) &&& (2147483647 : Int64))), .second, iv b17, lv (-1 : Int64), .second, .unset, .unset] [(.long ((((fMin ((p1.toInt64) &&& (2147483647 : Int64)) ((p2.toInt64) &&& (2147483647 : Int64))) + (1 : Int64)) * ((k.toInt64) + (0 : Int64))) + (2 : Int64)))] _
            refine own_go (fun t₀ k₀ => XS.lstore X16.here hx rfl (Jvm.hb hby at_196) rfl (l' := #[iv p0, iv p1, iv p2, iv p3, iv k, iv b2, rv r12, lv ((k.toInt64) + (0 : Int64)), .second, lv ((p1.toInt64) &&& (2147483647 : Int64)), .second, lv ((p2.toInt64) &&& (2147483647 : Int64)), .second, lv (fMin ((p1.toInt64) &&& (2147483647 : Int64)) ((p2.toInt64) &&& (2147483647 : Int64))), .second, iv b17, lv (-1 : Int64), .second, lv ((((fMin ((p1.toInt64) &&& (2147483647 : Int64)) ((p2.toInt64) &&& (2147483647 : Int64))) + (1 : Int64)) * ((k.toInt64) + (0 : Int64))) + (2 : Int64)), .second]) rfl k₀) ?_
            show Gm p e below T16 m 198 #[iv p0, iv p1, iv p2, iv p3, iv k, iv b2, rv r12, lv ((k.toInt64) + (0 : Int64)), .second, lv ((p1.toInt64) &&& (2147483647 : Int64)), .second, lv ((p2.toInt64) &&& (2147483647 : Int64)), .second, lv (fMin ((p1.toInt64) &&& (2147483647 : Int64)) ((p2.toInt64) &&& (2147483647 : Int64))), .second, iv b17, lv (-1 : Int64), .second, lv ((((fMin ((p1.toInt64) &&& (2147483647 : Int64)) ((p2.toInt64) &&& (2147483647 : Int64))) + (1 : Int64)) * ((k.toInt64) + (0 : Int64))) + (2 : Int64)), .second] [] _
            refine own_go (fun t₀ k₀ => XS.aload X16.here hx rfl (Jvm.hb hby at_198) rfl rfl k₀) ?_
            show Gm p e below T16 m 200 #[iv p0, iv p1, iv p2, iv p3, iv k, iv b2, rv r12, lv ((k.toInt64) + (0 : Int64)), .second, lv ((p1.toInt64) &&& (2147483647 : Int64)), .second, lv ((p2.toInt64) &&& (2147483647 : Int64)), .second, lv (fMin ((p1.toInt64) &&& (2147483647 : Int64)) ((p2.toInt64) &&& (2147483647 : Int64))), .second, iv b17, lv (-1 : Int64), .second, lv ((((fMin ((p1.toInt64) &&& (2147483647 : Int64)) ((p2.toInt64) &&& (2147483647 : Int64))) + (1 : Int64)) * ((k.toInt64) + (0 : Int64))) + (2 : Int64)), .second] [(.ref r12)] _
            refine own_go (fun t₀ k₀ => XS.lload X16.here hx rfl (Jvm.hb hby at_200) rfl k₀) ?_
            show Gm p e below T16 m 202 #[iv p0, iv p1, iv p2, iv p3, iv k, iv b2, rv r12, lv ((k.toInt64) + (0 : Int64)), .second, lv ((p1.toInt64) &&& (2147483647 : Int64)), .second, lv ((p2.toInt64) &&& (2147483647 : Int64)), .second, lv (fMin ((p1.toInt64) &&& (2147483647 : Int64)) ((p2.toInt64) &&& (2147483647 : Int64))), .second, iv b17, lv (-1 : Int64), .second, lv ((((fMin ((p1.toInt64) &&& (2147483647 : Int64)) ((p2.toInt64) &&& (2147483647 : Int64))) + (1 : Int64)) * ((k.toInt64) + (0 : Int64))) + (2 : Int64)), .second] [(.long (fMin ((p1.toInt64) &&& (2147483647 : Int64)) ((p2.toInt64) &&& (2147483647 : Int64)))), (.ref r12)] _
            refine own_go (fun t₀ k₀ => XS.lload X16.here hx rfl (Jvm.hb hby at_202) rfl k₀) ?_
            show Gm p e below T16 m 204 #[iv p0, iv p1, iv p2, iv p3, iv k, iv b2, rv r12, lv ((k.toInt64) + (0 : Int64)), .second, lv ((p1.toInt64) &&& (2147483647 : Int64)), .second, lv ((p2.toInt64) &&& (2147483647 : Int64)), .second, lv (fMin ((p1.toInt64) &&& (2147483647 : Int64)) ((p2.toInt64) &&& (2147483647 : Int64))), .second, iv b17, lv (-1 : Int64), .second, lv ((((fMin ((p1.toInt64) &&& (2147483647 : Int64)) ((p2.toInt64) &&& (2147483647 : Int64))) + (1 : Int64)) * ((k.toInt64) + (0 : Int64))) + (2 : Int64)), .second] [(.long (-1 : Int64)), (.long (fMin ((p1.toInt64) &&& (2147483647 : Int64)) ((p2.toInt64) &&& (2147483647 : Int64)))), (.ref r12)] _
            obtain ⟨cq21, kq21, q21a, q21b, q21c⟩ := isOf hZ e16 Ec12
            obtain ⟨_, _, ⟨T21, L21, k21, n21⟩, -, X21, ⟨Lc21, hQ21, l21, y21, z21⟩, st21⟩ := X16.virtualBack hx (y := (⟨"com/example/data_in_bounds/datainbounds/metapath/RegexProgram$Fragment", "repeatedLength", "(JJ)J"⟩ : MethodName)) (z := (⟨"com/example/data_in_bounds/datainbounds/metapath/RegexProgram$Fragment", "repeatedLength", "(JJ)J"⟩ : MethodName)) hown (mvT hZ (hw _ (List.mem_of_getElem? (i := 22) rfl))) (mvT hZ (hw _ (List.mem_of_getElem? (i := 23) rfl))) (notFace_of_selects (args := #[]) (mvT hZ (hw _ (List.mem_of_getElem? (i := 25) rfl)))) (mvT hZ (hw _ (List.mem_of_getElem? (i := 25) rfl))) (mvT hZ (hw _ (List.mem_of_getElem? (i := 24) rfl))) (by decide) (backOf (W := 0) (rm4 l Z a0 hw [] r12 (fMin ((p1.toInt64) &&& (2147483647 : Int64)) ((p2.toInt64) &&& (2147483647 : Int64))) (-1 : Int64) (1 : Int32) b2 T12.heap n0 Z12 Flen12 Fnul12) hZ (hw _ (List.mem_of_getElem? (i := 26) rfl)) (hw _ (List.mem_of_getElem? (i := 2) rfl)) (by decide) (by decide)) q21a q21c (g := (mkF m 204 #[iv p0, iv p1, iv p2, iv p3, iv k, iv b2, rv r12, lv ((k.toInt64) + (0 : Int64)), .second, lv ((p1.toInt64) &&& (2147483647 : Int64)), .second, lv ((p2.toInt64) &&& (2147483647 : Int64)), .second, lv (fMin ((p1.toInt64) &&& (2147483647 : Int64)) ((p2.toInt64) &&& (2147483647 : Int64))), .second, iv b17, lv (-1 : Int64), .second, lv ((((fMin ((p1.toInt64) &&& (2147483647 : Int64)) ((p2.toInt64) &&& (2147483647 : Int64))) + (1 : Int64)) * ((k.toInt64) + (0 : Int64))) + (2 : Int64)), .second] [(.long (-1 : Int64)), (.long (fMin ((p1.toInt64) &&& (2147483647 : Int64)) ((p2.toInt64) &&& (2147483647 : Int64)))), (.ref r12)])) rfl (by rw [hml]; rfl) (Steps.refl _) (argsL := [(.long (fMin ((p1.toInt64) &&& (2147483647 : Int64)) ((p2.toInt64) &&& (2147483647 : Int64)))), (.long (-1 : Int64))]) (rest := []) (lenOf own_pd4 rfl) rfl (by show 2 * 0 + _ ≤ _; exact Nat.le_of_eq rfl) (Jvm.hb hby at_204) (fun _ _ => ⟨rfl, e16, (by decide : 2 + 0 ≤ _), (by decide : 12 + 0 ≤ _)⟩)
            dsimp only [Pt.U, Pt.locs, Pt.cells, Pt.slots] at X21 l21 y21 z21 st21 hQ21
            subst l21 y21 z21
            obtain ⟨rfl, Nq21, eq21⟩ := hQ21
            have N21 := Fr.app N16 Nq21
            have e21 : T21.heap = T12.heap := eq21
            refine own_go (fun t k => st21.trans k) ?_
            show Gm p e below T21 m 207 #[iv p0, iv p1, iv p2, iv p3, iv k, iv b2, rv r12, lv ((k.toInt64) + (0 : Int64)), .second, lv ((p1.toInt64) &&& (2147483647 : Int64)), .second, lv ((p2.toInt64) &&& (2147483647 : Int64)), .second, lv (fMin ((p1.toInt64) &&& (2147483647 : Int64)) ((p2.toInt64) &&& (2147483647 : Int64))), .second, iv b17, lv (-1 : Int64), .second, lv ((((fMin ((p1.toInt64) &&& (2147483647 : Int64)) ((p2.toInt64) &&& (2147483647 : Int64))) + (1 : Int64)) * ((k.toInt64) + (0 : Int64))) + (2 : Int64)), .second] [(.long (fR (fMin ((p1.toInt64) &&& (2147483647 : Int64)) ((p2.toInt64) &&& (2147483647 : Int64))) (-1 : Int64) (1 : Int32) b2))] _
            refine own_go (fun t₀ k₀ => XS.lload X21.here hx rfl (Jvm.hb hby at_207) rfl k₀) ?_
            show Gm p e below T21 m 209 #[iv p0, iv p1, iv p2, iv p3, iv k, iv b2, rv r12, lv ((k.toInt64) + (0 : Int64)), .second, lv ((p1.toInt64) &&& (2147483647 : Int64)), .second, lv ((p2.toInt64) &&& (2147483647 : Int64)), .second, lv (fMin ((p1.toInt64) &&& (2147483647 : Int64)) ((p2.toInt64) &&& (2147483647 : Int64))), .second, iv b17, lv (-1 : Int64), .second, lv ((((fMin ((p1.toInt64) &&& (2147483647 : Int64)) ((p2.toInt64) &&& (2147483647 : Int64))) + (1 : Int64)) * ((k.toInt64) + (0 : Int64))) + (2 : Int64)), .second] [(.long ((((fMin ((p1.toInt64) &&& (2147483647 : Int64)) ((p2.toInt64) &&& (2147483647 : Int64))) + (1 : Int64)) * ((k.toInt64) + (0 : Int64))) + (2 : Int64))), (.long (fR (fMin ((p1.toInt64) &&& (2147483647 : Int64)) ((p2.toInt64) &&& (2147483647 : Int64))) (-1 : Int64) (1 : Int32) b2))] _
            refine own_go (fun t₀ k₀ => XT.lcmp X21.here hx rfl (Jvm.hb hby at_209) rfl k₀) ?_
            show Gm p e below T21 m 210 #[iv p0, iv p1, iv p2, iv p3, iv k, iv b2, rv r12, lv ((k.toInt64) + (0 : Int64)), .second, lv ((p1.toInt64) &&& (2147483647 : Int64)), .second, lv ((p2.toInt64) &&& (2147483647 : Int64)), .second, lv (fMin ((p1.toInt64) &&& (2147483647 : Int64)) ((p2.toInt64) &&& (2147483647 : Int64))), .second, iv b17, lv (-1 : Int64), .second, lv ((((fMin ((p1.toInt64) &&& (2147483647 : Int64)) ((p2.toInt64) &&& (2147483647 : Int64))) + (1 : Int64)) * ((k.toInt64) + (0 : Int64))) + (2 : Int64)), .second] [(.int (XT.cmpL (fR (fMin ((p1.toInt64) &&& (2147483647 : Int64)) ((p2.toInt64) &&& (2147483647 : Int64))) (-1 : Int64) (1 : Int32) b2) ((((fMin ((p1.toInt64) &&& (2147483647 : Int64)) ((p2.toInt64) &&& (2147483647 : Int64))) + (1 : Int64)) * ((k.toInt64) + (0 : Int64))) + (2 : Int64))))] _
            refine own_go (fun t₀ k₀ => XS.ifNo X21.here hx rfl (Jvm.hb hby at_210) rfl (XT.ll_ne_f (own_fin _ _ _ _ ((k.toInt64) + (0 : Int64)) _ (by rw [hk, if_pos c15]; decide) (by rw [if_pos (by decide)]; try rfl))) k₀) ?_
            show Gm p e below T21 m 213 #[iv p0, iv p1, iv p2, iv p3, iv k, iv b2, rv r12, lv ((k.toInt64) + (0 : Int64)), .second, lv ((p1.toInt64) &&& (2147483647 : Int64)), .second, lv ((p2.toInt64) &&& (2147483647 : Int64)), .second, lv (fMin ((p1.toInt64) &&& (2147483647 : Int64)) ((p2.toInt64) &&& (2147483647 : Int64))), .second, iv b17, lv (-1 : Int64), .second, lv ((((fMin ((p1.toInt64) &&& (2147483647 : Int64)) ((p2.toInt64) &&& (2147483647 : Int64))) + (1 : Int64)) * ((k.toInt64) + (0 : Int64))) + (2 : Int64)), .second] [] _
            refine own_go (fun t₀ k₀ => XS.iconst X21.here hx rfl (Jvm.hb hby at_213) k₀) ?_
            show Gm p e below T21 m 214 #[iv p0, iv p1, iv p2, iv p3, iv k, iv b2, rv r12, lv ((k.toInt64) + (0 : Int64)), .second, lv ((p1.toInt64) &&& (2147483647 : Int64)), .second, lv ((p2.toInt64) &&& (2147483647 : Int64)), .second, lv (fMin ((p1.toInt64) &&& (2147483647 : Int64)) ((p2.toInt64) &&& (2147483647 : Int64))), .second, iv b17, lv (-1 : Int64), .second, lv ((((fMin ((p1.toInt64) &&& (2147483647 : Int64)) ((p2.toInt64) &&& (2147483647 : Int64))) + (1 : Int64)) * ((k.toInt64) + (0 : Int64))) + (2 : Int64)), .second] [(.int (1 : Int32))] _
            refine own_go (fun t₀ k₀ => XS.goto X21.here hx rfl (pc0 := 214) (pc' := 218) rfl (Jvm.hb hby at_214) (by decide) (by decide) k₀) ?_
            show Gm p e below T21 m 218 #[iv p0, iv p1, iv p2, iv p3, iv k, iv b2, rv r12, lv ((k.toInt64) + (0 : Int64)), .second, lv ((p1.toInt64) &&& (2147483647 : Int64)), .second, lv ((p2.toInt64) &&& (2147483647 : Int64)), .second, lv (fMin ((p1.toInt64) &&& (2147483647 : Int64)) ((p2.toInt64) &&& (2147483647 : Int64))), .second, iv b17, lv (-1 : Int64), .second, lv ((((fMin ((p1.toInt64) &&& (2147483647 : Int64)) ((p2.toInt64) &&& (2147483647 : Int64))) + (1 : Int64)) * ((k.toInt64) + (0 : Int64))) + (2 : Int64)), .second] [(.int (1 : Int32))] _
            exact own_retI X21 hx hlk (t := .boolean) Bd.returns rfl (by simp) (Jvm.hb hby at_218) e21 ⟨rfl, N21⟩ (by decide) (by decide)
        · have hfork := trivial
          refine own_go (fun t₀ k₀ => XS.ifNo X12.here hx rfl (Jvm.hb hby at_96) rfl (XT.i0_eq_f c15) k₀) ?_
          show Gm p e below T12 m 99 #[iv p0, iv p1, iv p2, iv p3, iv k, iv b2, rv r12, .unset, .unset, .unset, .unset, .unset, .unset, .unset, .unset, .unset, .unset, .unset, .unset, .unset] [(.long (k.toInt64))] _
          refine own_go (fun t₀ k₀ => X12.ldc2J hx hown (mvT hZ (hw _ (List.mem_of_getElem? (i := 14) rfl))) rfl (Jvm.hb hby at_99) k₀) ?_
          show Gm p e below T12 m 102 #[iv p0, iv p1, iv p2, iv p3, iv k, iv b2, rv r12, .unset, .unset, .unset, .unset, .unset, .unset, .unset, .unset, .unset, .unset, .unset, .unset, .unset] [(.long (3 : Int64)), (.long (k.toInt64))] _
          refine own_go (fun t₀ k₀ => XS.goto X12.here hx rfl (pc0 := 102) (pc' := 106) rfl (Jvm.hb hby at_102) (by decide) (by decide) k₀) ?_
          show Gm p e below T12 m 106 #[iv p0, iv p1, iv p2, iv p3, iv k, iv b2, rv r12, .unset, .unset, .unset, .unset, .unset, .unset, .unset, .unset, .unset, .unset, .unset, .unset, .unset] [(.long (3 : Int64)), (.long (k.toInt64))] _
          refine own_go (fun t₀ k₀ => XS.ladd X12.here hx rfl (Jvm.hb hby at_106) rfl k₀) ?_
          show Gm p e below T12 m 107 #[iv p0, iv p1, iv p2, iv p3, iv k, iv b2, rv r12, .unset, .unset, .unset, .unset, .unset, .unset, .unset, .unset, .unset, .unset, .unset, .unset, .unset] [(.long ((k.toInt64) + (3 : Int64)))] _
          refine own_go (fun t₀ k₀ => XS.lstore X12.here hx rfl (Jvm.hb hby at_107) rfl (l' := #[iv p0, iv p1, iv p2, iv p3, iv k, iv b2, rv r12, lv ((k.toInt64) + (3 : Int64)), .second, .unset, .unset, .unset, .unset, .unset, .unset, .unset, .unset, .unset, .unset, .unset]) rfl k₀) ?_
          show Gm p e below T12 m 109 #[iv p0, iv p1, iv p2, iv p3, iv k, iv b2, rv r12, lv ((k.toInt64) + (3 : Int64)), .second, .unset, .unset, .unset, .unset, .unset, .unset, .unset, .unset, .unset, .unset, .unset] [] _
          refine own_go (fun t₀ k₀ => XS.iloadN X12.here hx rfl (Jvm.hb hby at_109) rfl k₀) ?_
          show Gm p e below T12 m 110 #[iv p0, iv p1, iv p2, iv p3, iv k, iv b2, rv r12, lv ((k.toInt64) + (3 : Int64)), .second, .unset, .unset, .unset, .unset, .unset, .unset, .unset, .unset, .unset, .unset, .unset] [(.int p1)] _
          refine own_go (fun t₀ k₀ => XS.i2l X12.here hx rfl (Jvm.hb hby at_110) rfl k₀) ?_
          show Gm p e below T12 m 111 #[iv p0, iv p1, iv p2, iv p3, iv k, iv b2, rv r12, lv ((k.toInt64) + (3 : Int64)), .second, .unset, .unset, .unset, .unset, .unset, .unset, .unset, .unset, .unset, .unset, .unset] [(.long (p1.toInt64))] _
          refine own_go (fun t₀ k₀ => X12.ldc2J hx hown (mvT hZ (hw _ (List.mem_of_getElem? (i := 15) rfl))) rfl (Jvm.hb hby at_111) k₀) ?_
          show Gm p e below T12 m 114 #[iv p0, iv p1, iv p2, iv p3, iv k, iv b2, rv r12, lv ((k.toInt64) + (3 : Int64)), .second, .unset, .unset, .unset, .unset, .unset, .unset, .unset, .unset, .unset, .unset, .unset] [(.long (2147483647 : Int64)), (.long (p1.toInt64))] _
          refine own_go (fun t₀ k₀ => XS.land X12.here hx rfl (Jvm.hb hby at_114) rfl k₀) ?_
          show Gm p e below T12 m 115 #[iv p0, iv p1, iv p2, iv p3, iv k, iv b2, rv r12, lv ((k.toInt64) + (3 : Int64)), .second, .unset, .unset, .unset, .unset, .unset, .unset, .unset, .unset, .unset, .unset, .unset] [(.long ((p1.toInt64) &&& (2147483647 : Int64)))] _
          refine own_go (fun t₀ k₀ => XS.lstore X12.here hx rfl (Jvm.hb hby at_115) rfl (l' := #[iv p0, iv p1, iv p2, iv p3, iv k, iv b2, rv r12, lv ((k.toInt64) + (3 : Int64)), .second, lv ((p1.toInt64) &&& (2147483647 : Int64)), .second, .unset, .unset, .unset, .unset, .unset, .unset, .unset, .unset, .unset]) rfl k₀) ?_
          show Gm p e below T12 m 117 #[iv p0, iv p1, iv p2, iv p3, iv k, iv b2, rv r12, lv ((k.toInt64) + (3 : Int64)), .second, lv ((p1.toInt64) &&& (2147483647 : Int64)), .second, .unset, .unset, .unset, .unset, .unset, .unset, .unset, .unset, .unset] [] _
          refine own_go (fun t₀ k₀ => XS.iloadN X12.here hx rfl (Jvm.hb hby at_117) rfl k₀) ?_
          show Gm p e below T12 m 118 #[iv p0, iv p1, iv p2, iv p3, iv k, iv b2, rv r12, lv ((k.toInt64) + (3 : Int64)), .second, lv ((p1.toInt64) &&& (2147483647 : Int64)), .second, .unset, .unset, .unset, .unset, .unset, .unset, .unset, .unset, .unset] [(.int p2)] _
          refine own_go (fun t₀ k₀ => XS.i2l X12.here hx rfl (Jvm.hb hby at_118) rfl k₀) ?_
          show Gm p e below T12 m 119 #[iv p0, iv p1, iv p2, iv p3, iv k, iv b2, rv r12, lv ((k.toInt64) + (3 : Int64)), .second, lv ((p1.toInt64) &&& (2147483647 : Int64)), .second, .unset, .unset, .unset, .unset, .unset, .unset, .unset, .unset, .unset] [(.long (p2.toInt64))] _
          refine own_go (fun t₀ k₀ => X12.ldc2J hx hown (mvT hZ (hw _ (List.mem_of_getElem? (i := 15) rfl))) rfl (Jvm.hb hby at_119) k₀) ?_
          show Gm p e below T12 m 122 #[iv p0, iv p1, iv p2, iv p3, iv k, iv b2, rv r12, lv ((k.toInt64) + (3 : Int64)), .second, lv ((p1.toInt64) &&& (2147483647 : Int64)), .second, .unset, .unset, .unset, .unset, .unset, .unset, .unset, .unset, .unset] [(.long (2147483647 : Int64)), (.long (p2.toInt64))] _
          refine own_go (fun t₀ k₀ => XS.land X12.here hx rfl (Jvm.hb hby at_122) rfl k₀) ?_
          show Gm p e below T12 m 123 #[iv p0, iv p1, iv p2, iv p3, iv k, iv b2, rv r12, lv ((k.toInt64) + (3 : Int64)), .second, lv ((p1.toInt64) &&& (2147483647 : Int64)), .second, .unset, .unset, .unset, .unset, .unset, .unset, .unset, .unset, .unset] [(.long ((p2.toInt64) &&& (2147483647 : Int64)))] _
          refine own_go (fun t₀ k₀ => XS.lstore X12.here hx rfl (Jvm.hb hby at_123) rfl (l' := #[iv p0, iv p1, iv p2, iv p3, iv k, iv b2, rv r12, lv ((k.toInt64) + (3 : Int64)), .second, lv ((p1.toInt64) &&& (2147483647 : Int64)), .second, lv ((p2.toInt64) &&& (2147483647 : Int64)), .second, .unset, .unset, .unset, .unset, .unset, .unset, .unset]) rfl k₀) ?_
          have hp := own_p p1.toInt64
          have hq := own_p p2.toInt64
          show Gm p e below T12 m 125 #[iv p0, iv p1, iv p2, iv p3, iv k, iv b2, rv r12, lv ((k.toInt64) + (3 : Int64)), .second, lv ((p1.toInt64) &&& (2147483647 : Int64)), .second, lv ((p2.toInt64) &&& (2147483647 : Int64)), .second, .unset, .unset, .unset, .unset, .unset, .unset, .unset] [] _
          refine own_go (fun t₀ k₀ => XS.lload X12.here hx rfl (Jvm.hb hby at_125) rfl k₀) ?_
          show Gm p e below T12 m 127 #[iv p0, iv p1, iv p2, iv p3, iv k, iv b2, rv r12, lv ((k.toInt64) + (3 : Int64)), .second, lv ((p1.toInt64) &&& (2147483647 : Int64)), .second, lv ((p2.toInt64) &&& (2147483647 : Int64)), .second, .unset, .unset, .unset, .unset, .unset, .unset, .unset] [(.long ((p1.toInt64) &&& (2147483647 : Int64)))] _
          refine own_go (fun t₀ k₀ => XS.lload X12.here hx rfl (Jvm.hb hby at_127) rfl k₀) ?_
          show Gm p e below T12 m 129 #[iv p0, iv p1, iv p2, iv p3, iv k, iv b2, rv r12, lv ((k.toInt64) + (3 : Int64)), .second, lv ((p1.toInt64) &&& (2147483647 : Int64)), .second, lv ((p2.toInt64) &&& (2147483647 : Int64)), .second, .unset, .unset, .unset, .unset, .unset, .unset, .unset] [(.long ((p2.toInt64) &&& (2147483647 : Int64))), (.long ((p1.toInt64) &&& (2147483647 : Int64)))] _
          obtain ⟨_, _, ⟨T22, L22, k22, n22⟩, -, X22, ⟨Lc22, hQ22, l22, y22, z22⟩, st22⟩ := Jvm.LawKit.callS X12 hx (y := (⟨"java/lang/Math", "min", "(JJ)J"⟩ : MethodName)) hown (mvT hZ (hw _ (List.mem_of_getElem? (i := 16) rfl))) (mvT hZ (hw _ (List.mem_of_getElem? (i := 17) rfl))) (mvT hZ (hw _ (List.mem_of_getElem? (i := 18) rfl))) (mvT hZ (hw _ (List.mem_of_getElem? (i := 19) rfl))) (by decide) (backOf (W := 0) (rm3 l Z a0 hw [] ((p1.toInt64) &&& (2147483647 : Int64)) ((p2.toInt64) &&& (2147483647 : Int64)) T12.heap n0 Z12) hZ (hw _ (List.mem_of_getElem? (i := 19) rfl)) (hw _ (List.mem_of_getElem? (i := 18) rfl)) (by decide) (by decide)) (g := (mkF m 129 #[iv p0, iv p1, iv p2, iv p3, iv k, iv b2, rv r12, lv ((k.toInt64) + (3 : Int64)), .second, lv ((p1.toInt64) &&& (2147483647 : Int64)), .second, lv ((p2.toInt64) &&& (2147483647 : Int64)), .second, .unset, .unset, .unset, .unset, .unset, .unset, .unset] [(.long ((p2.toInt64) &&& (2147483647 : Int64))), (.long ((p1.toInt64) &&& (2147483647 : Int64)))])) rfl (by rw [hml]; rfl) (argsL := [(.long ((p1.toInt64) &&& (2147483647 : Int64))), (.long ((p2.toInt64) &&& (2147483647 : Int64)))]) (rest := []) (lenOf own_pd4 rfl) rfl (by show 2 * 0 + _ ≤ _; exact Nat.le_of_eq rfl) (Jvm.hb hby at_129) (fun _ _ => ⟨rfl, rfl, (by decide : 2 + 0 ≤ _), (by decide : 12 + 0 ≤ _)⟩)
          dsimp only [Pt.U, Pt.locs, Pt.cells, Pt.slots] at X22 l22 y22 z22 st22 hQ22
          subst l22 y22 z22
          obtain ⟨rfl, Nq22, eq22⟩ := hQ22
          have N22 := Fr.app N12 Nq22
          have e22 : T22.heap = T12.heap := eq22
          refine own_go st22 ?_
          show Gm p e below T22 m 132 #[iv p0, iv p1, iv p2, iv p3, iv k, iv b2, rv r12, lv ((k.toInt64) + (3 : Int64)), .second, lv ((p1.toInt64) &&& (2147483647 : Int64)), .second, lv ((p2.toInt64) &&& (2147483647 : Int64)), .second, .unset, .unset, .unset, .unset, .unset, .unset, .unset] [(.long (fMin ((p1.toInt64) &&& (2147483647 : Int64)) ((p2.toInt64) &&& (2147483647 : Int64))))] _
          refine own_go (fun t₀ k₀ => XS.lstore X22.here hx rfl (Jvm.hb hby at_132) rfl (l' := #[iv p0, iv p1, iv p2, iv p3, iv k, iv b2, rv r12, lv ((k.toInt64) + (3 : Int64)), .second, lv ((p1.toInt64) &&& (2147483647 : Int64)), .second, lv ((p2.toInt64) &&& (2147483647 : Int64)), .second, lv (fMin ((p1.toInt64) &&& (2147483647 : Int64)) ((p2.toInt64) &&& (2147483647 : Int64))), .second, .unset, .unset, .unset, .unset, .unset]) rfl k₀) ?_
          show Gm p e below T22 m 134 #[iv p0, iv p1, iv p2, iv p3, iv k, iv b2, rv r12, lv ((k.toInt64) + (3 : Int64)), .second, lv ((p1.toInt64) &&& (2147483647 : Int64)), .second, lv ((p2.toInt64) &&& (2147483647 : Int64)), .second, lv (fMin ((p1.toInt64) &&& (2147483647 : Int64)) ((p2.toInt64) &&& (2147483647 : Int64))), .second, .unset, .unset, .unset, .unset, .unset] [] _
          refine own_go (fun t₀ k₀ => XS.iloadN X22.here hx rfl (Jvm.hb hby at_134) rfl k₀) ?_
          show Gm p e below T22 m 135 #[iv p0, iv p1, iv p2, iv p3, iv k, iv b2, rv r12, lv ((k.toInt64) + (3 : Int64)), .second, lv ((p1.toInt64) &&& (2147483647 : Int64)), .second, lv ((p2.toInt64) &&& (2147483647 : Int64)), .second, lv (fMin ((p1.toInt64) &&& (2147483647 : Int64)) ((p2.toInt64) &&& (2147483647 : Int64))), .second, .unset, .unset, .unset, .unset, .unset] [(.int p3)] _
          refine own_go (fun t₀ k₀ => XS.iconst X22.here hx rfl (Jvm.hb hby at_135) k₀) ?_
          show Gm p e below T22 m 136 #[iv p0, iv p1, iv p2, iv p3, iv k, iv b2, rv r12, lv ((k.toInt64) + (3 : Int64)), .second, lv ((p1.toInt64) &&& (2147483647 : Int64)), .second, lv ((p2.toInt64) &&& (2147483647 : Int64)), .second, lv (fMin ((p1.toInt64) &&& (2147483647 : Int64)) ((p2.toInt64) &&& (2147483647 : Int64))), .second, .unset, .unset, .unset, .unset, .unset] [(.int (1 : Int32)), (.int p3)] _
          refine own_go (fun t₀ k₀ => XS.iand X22.here hx rfl (Jvm.hb hby at_136) rfl k₀) ?_
          show Gm p e below T22 m 137 #[iv p0, iv p1, iv p2, iv p3, iv k, iv b2, rv r12, lv ((k.toInt64) + (3 : Int64)), .second, lv ((p1.toInt64) &&& (2147483647 : Int64)), .second, lv ((p2.toInt64) &&& (2147483647 : Int64)), .second, lv (fMin ((p1.toInt64) &&& (2147483647 : Int64)) ((p2.toInt64) &&& (2147483647 : Int64))), .second, .unset, .unset, .unset, .unset, .unset] [(.int (p3 &&& (1 : Int32)))] _
          obtain ⟨b23, hb23, k23⟩ : ∃ z : Int32, z = (if (p3 &&& (1 : Int32)) = (0 : Int32) then (0 : Int32) else (1 : Int32)) ∧ ∀ t, Steps p.tables e below (T22.setTop (mkF m 145 #[iv p0, iv p1, iv p2, iv p3, iv k, iv b2, rv r12, lv ((k.toInt64) + (3 : Int64)), .second, lv ((p1.toInt64) &&& (2147483647 : Int64)), .second, lv ((p2.toInt64) &&& (2147483647 : Int64)), .second, lv (fMin ((p1.toInt64) &&& (2147483647 : Int64)) ((p2.toInt64) &&& (2147483647 : Int64))), .second, .unset, .unset, .unset, .unset, .unset] [(.int z)])) t → Steps p.tables e below (T22.setTop (mkF m 137 #[iv p0, iv p1, iv p2, iv p3, iv k, iv b2, rv r12, lv ((k.toInt64) + (3 : Int64)), .second, lv ((p1.toInt64) &&& (2147483647 : Int64)), .second, lv ((p2.toInt64) &&& (2147483647 : Int64)), .second, lv (fMin ((p1.toInt64) &&& (2147483647 : Int64)) ((p2.toInt64) &&& (2147483647 : Int64))), .second, .unset, .unset, .unset, .unset, .unset] [(.int (p3 &&& (1 : Int32)))])) t := by
            by_cases hq : (p3 &&& (1 : Int32)) = (0 : Int32)
            · refine ⟨(0 : Int32), by rw [if_pos hq], fun t₀ k₀ => ?_⟩
              refine XS.ifYes X22.here hx rfl (pc0 := 137) (pc' := 144) rfl (Jvm.hb hby at_137) rfl (XT.i0_eq_t hq) (by decide) (by decide) ?_
              refine XS.iconst X22.here hx rfl (Jvm.hb hby at_144) ?_
              exact k₀
            · refine ⟨(1 : Int32), by rw [if_neg hq], fun t₀ k₀ => ?_⟩
              refine XS.ifNo X22.here hx rfl (Jvm.hb hby at_137) rfl (XT.i0_eq_f hq) ?_
              refine XS.iconst X22.here hx rfl (Jvm.hb hby at_140) ?_
              refine XS.goto X22.here hx rfl (pc0 := 141) (pc' := 145) rfl (Jvm.hb hby at_141) (by decide) (by decide) ?_
              exact k₀
          refine own_go k23 ?_
          show Gm p e below T22 m 145 #[iv p0, iv p1, iv p2, iv p3, iv k, iv b2, rv r12, lv ((k.toInt64) + (3 : Int64)), .second, lv ((p1.toInt64) &&& (2147483647 : Int64)), .second, lv ((p2.toInt64) &&& (2147483647 : Int64)), .second, lv (fMin ((p1.toInt64) &&& (2147483647 : Int64)) ((p2.toInt64) &&& (2147483647 : Int64))), .second, .unset, .unset, .unset, .unset, .unset] [(.int b23)] _
          refine own_go (fun t₀ k₀ => XS.istore X22.here hx rfl (Jvm.hb hby at_145) rfl (l' := #[iv p0, iv p1, iv p2, iv p3, iv k, iv b2, rv r12, lv ((k.toInt64) + (3 : Int64)), .second, lv ((p1.toInt64) &&& (2147483647 : Int64)), .second, lv ((p2.toInt64) &&& (2147483647 : Int64)), .second, lv (fMin ((p1.toInt64) &&& (2147483647 : Int64)) ((p2.toInt64) &&& (2147483647 : Int64))), .second, iv b23, .unset, .unset, .unset, .unset]) rfl k₀) ?_
          show Gm p e below T22 m 147 #[iv p0, iv p1, iv p2, iv p3, iv k, iv b2, rv r12, lv ((k.toInt64) + (3 : Int64)), .second, lv ((p1.toInt64) &&& (2147483647 : Int64)), .second, lv ((p2.toInt64) &&& (2147483647 : Int64)), .second, lv (fMin ((p1.toInt64) &&& (2147483647 : Int64)) ((p2.toInt64) &&& (2147483647 : Int64))), .second, iv b23, .unset, .unset, .unset, .unset] [] _
          refine own_go (fun t₀ k₀ => XS.iload X22.here hx rfl (Jvm.hb hby at_147) rfl k₀) ?_
          show Gm p e below T22 m 149 #[iv p0, iv p1, iv p2, iv p3, iv k, iv b2, rv r12, lv ((k.toInt64) + (3 : Int64)), .second, lv ((p1.toInt64) &&& (2147483647 : Int64)), .second, lv ((p2.toInt64) &&& (2147483647 : Int64)), .second, lv (fMin ((p1.toInt64) &&& (2147483647 : Int64)) ((p2.toInt64) &&& (2147483647 : Int64))), .second, iv b23, .unset, .unset, .unset, .unset] [(.int b23)] _
          by_cases c24 : b23 = (0 : Int32)
          · have hfork := trivial
            refine own_go (fun t₀ k₀ => XS.ifYes X22.here hx rfl (pc0 := 149) (pc' := 158) rfl (Jvm.hb hby at_149) rfl (XT.i0_eq_t c24) (by decide) (by decide) k₀) ?_
            show Gm p e below T22 m 158 #[iv p0, iv p1, iv p2, iv p3, iv k, iv b2, rv r12, lv ((k.toInt64) + (3 : Int64)), .second, lv ((p1.toInt64) &&& (2147483647 : Int64)), .second, lv ((p2.toInt64) &&& (2147483647 : Int64)), .second, lv (fMin ((p1.toInt64) &&& (2147483647 : Int64)) ((p2.toInt64) &&& (2147483647 : Int64))), .second, iv b23, .unset, .unset, .unset, .unset] [] _
            refine own_go (fun t₀ k₀ => XS.lload X22.here hx rfl (Jvm.hb hby at_158) rfl k₀) ?_
            show Gm p e below T22 m 160 #[iv p0, iv p1, iv p2, iv p3, iv k, iv b2, rv r12, lv ((k.toInt64) + (3 : Int64)), .second, lv ((p1.toInt64) &&& (2147483647 : Int64)), .second, lv ((p2.toInt64) &&& (2147483647 : Int64)), .second, lv (fMin ((p1.toInt64) &&& (2147483647 : Int64)) ((p2.toInt64) &&& (2147483647 : Int64))), .second, iv b23, .unset, .unset, .unset, .unset] [(.long ((p1.toInt64) &&& (2147483647 : Int64)))] _
            refine own_go (fun t₀ k₀ => XS.lload X22.here hx rfl (Jvm.hb hby at_160) rfl k₀) ?_
            show Gm p e below T22 m 162 #[iv p0, iv p1, iv p2, iv p3, iv k, iv b2, rv r12, lv ((k.toInt64) + (3 : Int64)), .second, lv ((p1.toInt64) &&& (2147483647 : Int64)), .second, lv ((p2.toInt64) &&& (2147483647 : Int64)), .second, lv (fMin ((p1.toInt64) &&& (2147483647 : Int64)) ((p2.toInt64) &&& (2147483647 : Int64))), .second, iv b23, .unset, .unset, .unset, .unset] [(.long ((p2.toInt64) &&& (2147483647 : Int64))), (.long ((p1.toInt64) &&& (2147483647 : Int64)))] _
            obtain ⟨_, _, ⟨T25, L25, k25, n25⟩, -, X25, ⟨Lc25, hQ25, l25, y25, z25⟩, st25⟩ := Jvm.LawKit.callS X22 hx (y := (⟨"java/lang/Math", "max", "(JJ)J"⟩ : MethodName)) hown (mvT hZ (hw _ (List.mem_of_getElem? (i := 30) rfl))) (mvT hZ (hw _ (List.mem_of_getElem? (i := 31) rfl))) (mvT hZ (hw _ (List.mem_of_getElem? (i := 18) rfl))) (mvT hZ (hw _ (List.mem_of_getElem? (i := 32) rfl))) (by decide) (backOf (W := 0) (rm5 l Z a0 hw [] ((p1.toInt64) &&& (2147483647 : Int64)) ((p2.toInt64) &&& (2147483647 : Int64)) T12.heap n0 Z12) hZ (hw _ (List.mem_of_getElem? (i := 32) rfl)) (hw _ (List.mem_of_getElem? (i := 18) rfl)) (by decide) (by decide)) (g := (mkF m 162 #[iv p0, iv p1, iv p2, iv p3, iv k, iv b2, rv r12, lv ((k.toInt64) + (3 : Int64)), .second, lv ((p1.toInt64) &&& (2147483647 : Int64)), .second, lv ((p2.toInt64) &&& (2147483647 : Int64)), .second, lv (fMin ((p1.toInt64) &&& (2147483647 : Int64)) ((p2.toInt64) &&& (2147483647 : Int64))), .second, iv b23, .unset, .unset, .unset, .unset] [(.long ((p2.toInt64) &&& (2147483647 : Int64))), (.long ((p1.toInt64) &&& (2147483647 : Int64)))])) rfl (by rw [hml]; rfl) (argsL := [(.long ((p1.toInt64) &&& (2147483647 : Int64))), (.long ((p2.toInt64) &&& (2147483647 : Int64)))]) (rest := []) (lenOf own_pd4 rfl) rfl (by show 2 * 0 + _ ≤ _; exact Nat.le_of_eq rfl) (Jvm.hb hby at_162) (fun _ _ => ⟨rfl, e22, (by decide : 2 + 0 ≤ _), (by decide : 12 + 0 ≤ _)⟩)
            dsimp only [Pt.U, Pt.locs, Pt.cells, Pt.slots] at X25 l25 y25 z25 st25 hQ25
            subst l25 y25 z25
            obtain ⟨rfl, Nq25, eq25⟩ := hQ25
            have N25 := Fr.app N22 Nq25
            have e25 : T25.heap = T12.heap := eq25
            refine own_go st25 ?_
            show Gm p e below T25 m 165 #[iv p0, iv p1, iv p2, iv p3, iv k, iv b2, rv r12, lv ((k.toInt64) + (3 : Int64)), .second, lv ((p1.toInt64) &&& (2147483647 : Int64)), .second, lv ((p2.toInt64) &&& (2147483647 : Int64)), .second, lv (fMin ((p1.toInt64) &&& (2147483647 : Int64)) ((p2.toInt64) &&& (2147483647 : Int64))), .second, iv b23, .unset, .unset, .unset, .unset] [(.long (fMax ((p1.toInt64) &&& (2147483647 : Int64)) ((p2.toInt64) &&& (2147483647 : Int64))))] _
            refine own_go (fun t₀ k₀ => XS.lstore X25.here hx rfl (Jvm.hb hby at_165) rfl (l' := #[iv p0, iv p1, iv p2, iv p3, iv k, iv b2, rv r12, lv ((k.toInt64) + (3 : Int64)), .second, lv ((p1.toInt64) &&& (2147483647 : Int64)), .second, lv ((p2.toInt64) &&& (2147483647 : Int64)), .second, lv (fMin ((p1.toInt64) &&& (2147483647 : Int64)) ((p2.toInt64) &&& (2147483647 : Int64))), .second, iv b23, lv (fMax ((p1.toInt64) &&& (2147483647 : Int64)) ((p2.toInt64) &&& (2147483647 : Int64))), .second, .unset, .unset]) rfl k₀) ?_
            show Gm p e below T25 m 167 #[iv p0, iv p1, iv p2, iv p3, iv k, iv b2, rv r12, lv ((k.toInt64) + (3 : Int64)), .second, lv ((p1.toInt64) &&& (2147483647 : Int64)), .second, lv ((p2.toInt64) &&& (2147483647 : Int64)), .second, lv (fMin ((p1.toInt64) &&& (2147483647 : Int64)) ((p2.toInt64) &&& (2147483647 : Int64))), .second, iv b23, lv (fMax ((p1.toInt64) &&& (2147483647 : Int64)) ((p2.toInt64) &&& (2147483647 : Int64))), .second, .unset, .unset] [] _
            refine own_go (fun t₀ k₀ => XS.iload X25.here hx rfl (Jvm.hb hby at_167) rfl k₀) ?_
            show Gm p e below T25 m 169 #[iv p0, iv p1, iv p2, iv p3, iv k, iv b2, rv r12, lv ((k.toInt64) + (3 : Int64)), .second, lv ((p1.toInt64) &&& (2147483647 : Int64)), .second, lv ((p2.toInt64) &&& (2147483647 : Int64)), .second, lv (fMin ((p1.toInt64) &&& (2147483647 : Int64)) ((p2.toInt64) &&& (2147483647 : Int64))), .second, iv b23, lv (fMax ((p1.toInt64) &&& (2147483647 : Int64)) ((p2.toInt64) &&& (2147483647 : Int64))), .second, .unset, .unset] [(.int b23)] _
            refine own_go (fun t₀ k₀ => XS.ifYes X25.here hx rfl (pc0 := 169) (pc' := 186) rfl (Jvm.hb hby at_169) rfl (XT.i0_eq_t c24) (by decide) (by decide) k₀) ?_
            show Gm p e below T25 m 186 #[iv p0, iv p1, iv p2, iv p3, iv k, iv b2, rv r12, lv ((k.toInt64) + (3 : Int64)), .second, lv ((p1.toInt64) &&& (2147483647 : Int64)), .second, lv ((p2.toInt64) &&& (2147483647 : Int64)), .second, lv (fMin ((p1.toInt64) &&& (2147483647 : Int64)) ((p2.toInt64) &&& (2147483647 : Int64))), .second, iv b23, lv (fMax ((p1.toInt64) &&& (2147483647 : Int64)) ((p2.toInt64) &&& (2147483647 : Int64))), .second, .unset, .unset] [] _
            refine own_go (fun t₀ k₀ => XS.lload X25.here hx rfl (Jvm.hb hby at_186) rfl k₀) ?_
            show Gm p e below T25 m 188 #[iv p0, iv p1, iv p2, iv p3, iv k, iv b2, rv r12, lv ((k.toInt64) + (3 : Int64)), .second, lv ((p1.toInt64) &&& (2147483647 : Int64)), .second, lv ((p2.toInt64) &&& (2147483647 : Int64)), .second, lv (fMin ((p1.toInt64) &&& (2147483647 : Int64)) ((p2.toInt64) &&& (2147483647 : Int64))), .second, iv b23, lv (fMax ((p1.toInt64) &&& (2147483647 : Int64)) ((p2.toInt64) &&& (2147483647 : Int64))), .second, .unset, .unset] [(.long (fMax ((p1.toInt64) &&& (2147483647 : Int64)) ((p2.toInt64) &&& (2147483647 : Int64))))] _
            refine own_go (fun t₀ k₀ => XS.lload X25.here hx rfl (Jvm.hb hby at_188) rfl k₀) ?_
            show Gm p e below T25 m 190 #[iv p0, iv p1, iv p2, iv p3, iv k, iv b2, rv r12, lv ((k.toInt64) + (3 : Int64)), .second, lv ((p1.toInt64) &&& (2147483647 : Int64)), .second, lv ((p2.toInt64) &&& (2147483647 : Int64)), .second, lv (fMin ((p1.toInt64) &&& (2147483647 : Int64)) ((p2.toInt64) &&& (2147483647 : Int64))), .second, iv b23, lv (fMax ((p1.toInt64) &&& (2147483647 : Int64)) ((p2.toInt64) &&& (2147483647 : Int64))), .second, .unset, .unset] [(.long ((k.toInt64) + (3 : Int64))), (.long (fMax ((p1.toInt64) &&& (2147483647 : Int64)) ((p2.toInt64) &&& (2147483647 : Int64))))] _
            refine own_go (fun t₀ k₀ => XS.lconst X25.here hx rfl (Jvm.hb hby at_190) k₀) ?_
            show Gm p e below T25 m 191 #[iv p0, iv p1, iv p2, iv p3, iv k, iv b2, rv r12, lv ((k.toInt64) + (3 : Int64)), .second, lv ((p1.toInt64) &&& (2147483647 : Int64)), .second, lv ((p2.toInt64) &&& (2147483647 : Int64)), .second, lv (fMin ((p1.toInt64) &&& (2147483647 : Int64)) ((p2.toInt64) &&& (2147483647 : Int64))), .second, iv b23, lv (fMax ((p1.toInt64) &&& (2147483647 : Int64)) ((p2.toInt64) &&& (2147483647 : Int64))), .second, .unset, .unset] [(.long (1 : Int64)), (.long ((k.toInt64) + (3 : Int64))), (.long (fMax ((p1.toInt64) &&& (2147483647 : Int64)) ((p2.toInt64) &&& (2147483647 : Int64))))] _
            refine own_go (fun t₀ k₀ => XS.ladd X25.here hx rfl (Jvm.hb hby at_191) rfl k₀) ?_
            show Gm p e below T25 m 192 #[iv p0, iv p1, iv p2, iv p3, iv k, iv b2, rv r12, lv ((k.toInt64) + (3 : Int64)), .second, lv ((p1.toInt64) &&& (2147483647 : Int64)), .second, lv ((p2.toInt64) &&& (2147483647 : Int64)), .second, lv (fMin ((p1.toInt64) &&& (2147483647 : Int64)) ((p2.toInt64) &&& (2147483647 : Int64))), .second, iv b23, lv (fMax ((p1.toInt64) &&& (2147483647 : Int64)) ((p2.toInt64) &&& (2147483647 : Int64))), .second, .unset, .unset] [(.long (((k.toInt64) + (3 : Int64)) + (1 : Int64))), (.long (fMax ((p1.toInt64) &&& (2147483647 : Int64)) ((p2.toInt64) &&& (2147483647 : Int64))))] _
            refine own_go (fun t₀ k₀ => XS.lmul X25.here hx rfl (Jvm.hb hby at_192) rfl k₀) ?_
            show Gm p e below T25 m 193 #[iv p0, iv p1, iv p2, iv p3, iv k, iv b2, rv r12, lv ((k.toInt64) + (3 : Int64)), .second, lv ((p1.toInt64) &&& (2147483647 : Int64)), .second, lv ((p2.toInt64) &&& (2147483647 : Int64)), .second, lv (fMin ((p1.toInt64) &&& (2147483647 : Int64)) ((p2.toInt64) &&& (2147483647 : Int64))), .second, iv b23, lv (fMax ((p1.toInt64) &&& (2147483647 : Int64)) ((p2.toInt64) &&& (2147483647 : Int64))), .second, .unset, .unset] [(.long ((fMax ((p1.toInt64) &&& (2147483647 : Int64)) ((p2.toInt64) &&& (2147483647 : Int64))) * (((k.toInt64) + (3 : Int64)) + (1 : Int64))))] _
            refine own_go (fun t₀ k₀ => XS.lload X25.here hx rfl (Jvm.hb hby at_193) rfl k₀) ?_
            show Gm p e below T25 m 195 #[iv p0, iv p1, iv p2, iv p3, iv k, iv b2, rv r12, lv ((k.toInt64) + (3 : Int64)), .second, lv ((p1.toInt64) &&& (2147483647 : Int64)), .second, lv ((p2.toInt64) &&& (2147483647 : Int64)), .second, lv (fMin ((p1.toInt64) &&& (2147483647 : Int64)) ((p2.toInt64) &&& (2147483647 : Int64))), .second, iv b23, lv (fMax ((p1.toInt64) &&& (2147483647 : Int64)) ((p2.toInt64) &&& (2147483647 : Int64))), .second, .unset, .unset] [(.long (fMin ((p1.toInt64) &&& (2147483647 : Int64)) ((p2.toInt64) &&& (2147483647 : Int64)))), (.long ((fMax ((p1.toInt64) &&& (2147483647 : Int64)) ((p2.toInt64) &&& (2147483647 : Int64))) * (((k.toInt64) + (3 : Int64)) + (1 : Int64))))] _
            refine own_go (fun t₀ k₀ => XS.lsub X25.here hx rfl (Jvm.hb hby at_195) rfl k₀) ?_
            show Gm p e below T25 m 196 #[iv p0, iv p1, iv p2, iv p3, iv k, iv b2, rv r12, lv ((k.toInt64) + (3 : Int64)), .second, lv ((p1.toInt64) &&& (2147483647 : Int64)), .second, lv ((p2.toInt64) &&& (2147483647 : Int64)), .second, lv (fMin ((p1.toInt64) &&& (2147483647 : Int64)) ((p2.toInt64) &&& (2147483647 : Int64))), .second, iv b23, lv (fMax ((p1.toInt64) &&& (2147483647 : Int64)) ((p2.toInt64) &&& (2147483647 : Int64))), .second, .unset, .unset] [(.long (((fMax ((p1.toInt64) &&& (2147483647 : Int64)) ((p2.toInt64) &&& (2147483647 : Int64))) * (((k.toInt64) + (3 : Int64)) + (1 : Int64))) - (fMin ((p1.toInt64) &&& (2147483647 : Int64)) ((p2.toInt64) &&& (2147483647 : Int64)))))] _
            refine own_go (fun t₀ k₀ => XS.lstore X25.here hx rfl (Jvm.hb hby at_196) rfl (l' := #[iv p0, iv p1, iv p2, iv p3, iv k, iv b2, rv r12, lv ((k.toInt64) + (3 : Int64)), .second, lv ((p1.toInt64) &&& (2147483647 : Int64)), .second, lv ((p2.toInt64) &&& (2147483647 : Int64)), .second, lv (fMin ((p1.toInt64) &&& (2147483647 : Int64)) ((p2.toInt64) &&& (2147483647 : Int64))), .second, iv b23, lv (fMax ((p1.toInt64) &&& (2147483647 : Int64)) ((p2.toInt64) &&& (2147483647 : Int64))), .second, lv (((fMax ((p1.toInt64) &&& (2147483647 : Int64)) ((p2.toInt64) &&& (2147483647 : Int64))) * (((k.toInt64) + (3 : Int64)) + (1 : Int64))) - (fMin ((p1.toInt64) &&& (2147483647 : Int64)) ((p2.toInt64) &&& (2147483647 : Int64)))), .second]) rfl k₀) ?_
            show Gm p e below T25 m 198 #[iv p0, iv p1, iv p2, iv p3, iv k, iv b2, rv r12, lv ((k.toInt64) + (3 : Int64)), .second, lv ((p1.toInt64) &&& (2147483647 : Int64)), .second, lv ((p2.toInt64) &&& (2147483647 : Int64)), .second, lv (fMin ((p1.toInt64) &&& (2147483647 : Int64)) ((p2.toInt64) &&& (2147483647 : Int64))), .second, iv b23, lv (fMax ((p1.toInt64) &&& (2147483647 : Int64)) ((p2.toInt64) &&& (2147483647 : Int64))), .second, lv (((fMax ((p1.toInt64) &&& (2147483647 : Int64)) ((p2.toInt64) &&& (2147483647 : Int64))) * (((k.toInt64) + (3 : Int64)) + (1 : Int64))) - (fMin ((p1.toInt64) &&& (2147483647 : Int64)) ((p2.toInt64) &&& (2147483647 : Int64)))), .second] [] _
            refine own_go (fun t₀ k₀ => XS.aload X25.here hx rfl (Jvm.hb hby at_198) rfl rfl k₀) ?_
            show Gm p e below T25 m 200 #[iv p0, iv p1, iv p2, iv p3, iv k, iv b2, rv r12, lv ((k.toInt64) + (3 : Int64)), .second, lv ((p1.toInt64) &&& (2147483647 : Int64)), .second, lv ((p2.toInt64) &&& (2147483647 : Int64)), .second, lv (fMin ((p1.toInt64) &&& (2147483647 : Int64)) ((p2.toInt64) &&& (2147483647 : Int64))), .second, iv b23, lv (fMax ((p1.toInt64) &&& (2147483647 : Int64)) ((p2.toInt64) &&& (2147483647 : Int64))), .second, lv (((fMax ((p1.toInt64) &&& (2147483647 : Int64)) ((p2.toInt64) &&& (2147483647 : Int64))) * (((k.toInt64) + (3 : Int64)) + (1 : Int64))) - (fMin ((p1.toInt64) &&& (2147483647 : Int64)) ((p2.toInt64) &&& (2147483647 : Int64)))), .second] [(.ref r12)] _
            refine own_go (fun t₀ k₀ => XS.lload X25.here hx rfl (Jvm.hb hby at_200) rfl k₀) ?_
            show Gm p e below T25 m 202 #[iv p0, iv p1, iv p2, iv p3, iv k, iv b2, rv r12, lv ((k.toInt64) + (3 : Int64)), .second, lv ((p1.toInt64) &&& (2147483647 : Int64)), .second, lv ((p2.toInt64) &&& (2147483647 : Int64)), .second, lv (fMin ((p1.toInt64) &&& (2147483647 : Int64)) ((p2.toInt64) &&& (2147483647 : Int64))), .second, iv b23, lv (fMax ((p1.toInt64) &&& (2147483647 : Int64)) ((p2.toInt64) &&& (2147483647 : Int64))), .second, lv (((fMax ((p1.toInt64) &&& (2147483647 : Int64)) ((p2.toInt64) &&& (2147483647 : Int64))) * (((k.toInt64) + (3 : Int64)) + (1 : Int64))) - (fMin ((p1.toInt64) &&& (2147483647 : Int64)) ((p2.toInt64) &&& (2147483647 : Int64)))), .second] [(.long (fMin ((p1.toInt64) &&& (2147483647 : Int64)) ((p2.toInt64) &&& (2147483647 : Int64)))), (.ref r12)] _
            refine own_go (fun t₀ k₀ => XS.lload X25.here hx rfl (Jvm.hb hby at_202) rfl k₀) ?_
            show Gm p e below T25 m 204 #[iv p0, iv p1, iv p2, iv p3, iv k, iv b2, rv r12, lv ((k.toInt64) + (3 : Int64)), .second, lv ((p1.toInt64) &&& (2147483647 : Int64)), .second, lv ((p2.toInt64) &&& (2147483647 : Int64)), .second, lv (fMin ((p1.toInt64) &&& (2147483647 : Int64)) ((p2.toInt64) &&& (2147483647 : Int64))), .second, iv b23, lv (fMax ((p1.toInt64) &&& (2147483647 : Int64)) ((p2.toInt64) &&& (2147483647 : Int64))), .second, lv (((fMax ((p1.toInt64) &&& (2147483647 : Int64)) ((p2.toInt64) &&& (2147483647 : Int64))) * (((k.toInt64) + (3 : Int64)) + (1 : Int64))) - (fMin ((p1.toInt64) &&& (2147483647 : Int64)) ((p2.toInt64) &&& (2147483647 : Int64)))), .second] [(.long (fMax ((p1.toInt64) &&& (2147483647 : Int64)) ((p2.toInt64) &&& (2147483647 : Int64)))), (.long (fMin ((p1.toInt64) &&& (2147483647 : Int64)) ((p2.toInt64) &&& (2147483647 : Int64)))), (.ref r12)] _
            obtain ⟨cq26, kq26, q26a, q26b, q26c⟩ := isOf hZ e25 Ec12
            obtain ⟨_, _, ⟨T26, L26, k26, n26⟩, -, X26, ⟨Lc26, hQ26, l26, y26, z26⟩, st26⟩ := X25.virtualBack hx (y := (⟨"com/example/data_in_bounds/datainbounds/metapath/RegexProgram$Fragment", "repeatedLength", "(JJ)J"⟩ : MethodName)) (z := (⟨"com/example/data_in_bounds/datainbounds/metapath/RegexProgram$Fragment", "repeatedLength", "(JJ)J"⟩ : MethodName)) hown (mvT hZ (hw _ (List.mem_of_getElem? (i := 22) rfl))) (mvT hZ (hw _ (List.mem_of_getElem? (i := 23) rfl))) (notFace_of_selects (args := #[]) (mvT hZ (hw _ (List.mem_of_getElem? (i := 25) rfl)))) (mvT hZ (hw _ (List.mem_of_getElem? (i := 25) rfl))) (mvT hZ (hw _ (List.mem_of_getElem? (i := 24) rfl))) (by decide) (backOf (W := 0) (rm4 l Z a0 hw [] r12 (fMin ((p1.toInt64) &&& (2147483647 : Int64)) ((p2.toInt64) &&& (2147483647 : Int64))) (fMax ((p1.toInt64) &&& (2147483647 : Int64)) ((p2.toInt64) &&& (2147483647 : Int64))) (1 : Int32) b2 T12.heap n0 Z12 Flen12 Fnul12) hZ (hw _ (List.mem_of_getElem? (i := 26) rfl)) (hw _ (List.mem_of_getElem? (i := 2) rfl)) (by decide) (by decide)) q26a q26c (g := (mkF m 204 #[iv p0, iv p1, iv p2, iv p3, iv k, iv b2, rv r12, lv ((k.toInt64) + (3 : Int64)), .second, lv ((p1.toInt64) &&& (2147483647 : Int64)), .second, lv ((p2.toInt64) &&& (2147483647 : Int64)), .second, lv (fMin ((p1.toInt64) &&& (2147483647 : Int64)) ((p2.toInt64) &&& (2147483647 : Int64))), .second, iv b23, lv (fMax ((p1.toInt64) &&& (2147483647 : Int64)) ((p2.toInt64) &&& (2147483647 : Int64))), .second, lv (((fMax ((p1.toInt64) &&& (2147483647 : Int64)) ((p2.toInt64) &&& (2147483647 : Int64))) * (((k.toInt64) + (3 : Int64)) + (1 : Int64))) - (fMin ((p1.toInt64) &&& (2147483647 : Int64)) ((p2.toInt64) &&& (2147483647 : Int64)))), .second] [(.long (fMax ((p1.toInt64) &&& (2147483647 : Int64)) ((p2.toInt64) &&& (2147483647 : Int64)))), (.long (fMin ((p1.toInt64) &&& (2147483647 : Int64)) ((p2.toInt64) &&& (2147483647 : Int64)))), (.ref r12)])) rfl (by rw [hml]; rfl) (Steps.refl _) (argsL := [(.long (fMin ((p1.toInt64) &&& (2147483647 : Int64)) ((p2.toInt64) &&& (2147483647 : Int64)))), (.long (fMax ((p1.toInt64) &&& (2147483647 : Int64)) ((p2.toInt64) &&& (2147483647 : Int64))))]) (rest := []) (lenOf own_pd4 rfl) rfl (by show 2 * 0 + _ ≤ _; exact Nat.le_of_eq rfl) (Jvm.hb hby at_204) (fun _ _ => ⟨rfl, e25, (by decide : 2 + 0 ≤ _), (by decide : 12 + 0 ≤ _)⟩)
            dsimp only [Pt.U, Pt.locs, Pt.cells, Pt.slots] at X26 l26 y26 z26 st26 hQ26
            subst l26 y26 z26
            obtain ⟨rfl, Nq26, eq26⟩ := hQ26
            have N26 := Fr.app N25 Nq26
            have e26 : T26.heap = T12.heap := eq26
            refine own_go (fun t k => st26.trans k) ?_
            show Gm p e below T26 m 207 #[iv p0, iv p1, iv p2, iv p3, iv k, iv b2, rv r12, lv ((k.toInt64) + (3 : Int64)), .second, lv ((p1.toInt64) &&& (2147483647 : Int64)), .second, lv ((p2.toInt64) &&& (2147483647 : Int64)), .second, lv (fMin ((p1.toInt64) &&& (2147483647 : Int64)) ((p2.toInt64) &&& (2147483647 : Int64))), .second, iv b23, lv (fMax ((p1.toInt64) &&& (2147483647 : Int64)) ((p2.toInt64) &&& (2147483647 : Int64))), .second, lv (((fMax ((p1.toInt64) &&& (2147483647 : Int64)) ((p2.toInt64) &&& (2147483647 : Int64))) * (((k.toInt64) + (3 : Int64)) + (1 : Int64))) - (fMin ((p1.toInt64) &&& (2147483647 : Int64)) ((p2.toInt64) &&& (2147483647 : Int64)))), .second] [(.long (fR (fMin ((p1.toInt64) &&& (2147483647 : Int64)) ((p2.toInt64) &&& (2147483647 : Int64))) (fMax ((p1.toInt64) &&& (2147483647 : Int64)) ((p2.toInt64) &&& (2147483647 : Int64))) (1 : Int32) b2))] _
            refine own_go (fun t₀ k₀ => XS.lload X26.here hx rfl (Jvm.hb hby at_207) rfl k₀) ?_
            show Gm p e below T26 m 209 #[iv p0, iv p1, iv p2, iv p3, iv k, iv b2, rv r12, lv ((k.toInt64) + (3 : Int64)), .second, lv ((p1.toInt64) &&& (2147483647 : Int64)), .second, lv ((p2.toInt64) &&& (2147483647 : Int64)), .second, lv (fMin ((p1.toInt64) &&& (2147483647 : Int64)) ((p2.toInt64) &&& (2147483647 : Int64))), .second, iv b23, lv (fMax ((p1.toInt64) &&& (2147483647 : Int64)) ((p2.toInt64) &&& (2147483647 : Int64))), .second, lv (((fMax ((p1.toInt64) &&& (2147483647 : Int64)) ((p2.toInt64) &&& (2147483647 : Int64))) * (((k.toInt64) + (3 : Int64)) + (1 : Int64))) - (fMin ((p1.toInt64) &&& (2147483647 : Int64)) ((p2.toInt64) &&& (2147483647 : Int64)))), .second] [(.long (((fMax ((p1.toInt64) &&& (2147483647 : Int64)) ((p2.toInt64) &&& (2147483647 : Int64))) * (((k.toInt64) + (3 : Int64)) + (1 : Int64))) - (fMin ((p1.toInt64) &&& (2147483647 : Int64)) ((p2.toInt64) &&& (2147483647 : Int64))))), (.long (fR (fMin ((p1.toInt64) &&& (2147483647 : Int64)) ((p2.toInt64) &&& (2147483647 : Int64))) (fMax ((p1.toInt64) &&& (2147483647 : Int64)) ((p2.toInt64) &&& (2147483647 : Int64))) (1 : Int32) b2))] _
            refine own_go (fun t₀ k₀ => XT.lcmp X26.here hx rfl (Jvm.hb hby at_209) rfl k₀) ?_
            show Gm p e below T26 m 210 #[iv p0, iv p1, iv p2, iv p3, iv k, iv b2, rv r12, lv ((k.toInt64) + (3 : Int64)), .second, lv ((p1.toInt64) &&& (2147483647 : Int64)), .second, lv ((p2.toInt64) &&& (2147483647 : Int64)), .second, lv (fMin ((p1.toInt64) &&& (2147483647 : Int64)) ((p2.toInt64) &&& (2147483647 : Int64))), .second, iv b23, lv (fMax ((p1.toInt64) &&& (2147483647 : Int64)) ((p2.toInt64) &&& (2147483647 : Int64))), .second, lv (((fMax ((p1.toInt64) &&& (2147483647 : Int64)) ((p2.toInt64) &&& (2147483647 : Int64))) * (((k.toInt64) + (3 : Int64)) + (1 : Int64))) - (fMin ((p1.toInt64) &&& (2147483647 : Int64)) ((p2.toInt64) &&& (2147483647 : Int64)))), .second] [(.int (XT.cmpL (fR (fMin ((p1.toInt64) &&& (2147483647 : Int64)) ((p2.toInt64) &&& (2147483647 : Int64))) (fMax ((p1.toInt64) &&& (2147483647 : Int64)) ((p2.toInt64) &&& (2147483647 : Int64))) (1 : Int32) b2) (((fMax ((p1.toInt64) &&& (2147483647 : Int64)) ((p2.toInt64) &&& (2147483647 : Int64))) * (((k.toInt64) + (3 : Int64)) + (1 : Int64))) - (fMin ((p1.toInt64) &&& (2147483647 : Int64)) ((p2.toInt64) &&& (2147483647 : Int64))))))] _
            refine own_go (fun t₀ k₀ => XS.ifNo X26.here hx rfl (Jvm.hb hby at_210) rfl (XT.ll_ne_f (own_fin _ _ _ _ ((k.toInt64) + (3 : Int64)) _ (by rw [hk, if_neg c15]; decide) (by rw [if_neg (own_max _ _ hp hq)]; try rfl))) k₀) ?_
            show Gm p e below T26 m 213 #[iv p0, iv p1, iv p2, iv p3, iv k, iv b2, rv r12, lv ((k.toInt64) + (3 : Int64)), .second, lv ((p1.toInt64) &&& (2147483647 : Int64)), .second, lv ((p2.toInt64) &&& (2147483647 : Int64)), .second, lv (fMin ((p1.toInt64) &&& (2147483647 : Int64)) ((p2.toInt64) &&& (2147483647 : Int64))), .second, iv b23, lv (fMax ((p1.toInt64) &&& (2147483647 : Int64)) ((p2.toInt64) &&& (2147483647 : Int64))), .second, lv (((fMax ((p1.toInt64) &&& (2147483647 : Int64)) ((p2.toInt64) &&& (2147483647 : Int64))) * (((k.toInt64) + (3 : Int64)) + (1 : Int64))) - (fMin ((p1.toInt64) &&& (2147483647 : Int64)) ((p2.toInt64) &&& (2147483647 : Int64)))), .second] [] _
            refine own_go (fun t₀ k₀ => XS.iconst X26.here hx rfl (Jvm.hb hby at_213) k₀) ?_
            show Gm p e below T26 m 214 #[iv p0, iv p1, iv p2, iv p3, iv k, iv b2, rv r12, lv ((k.toInt64) + (3 : Int64)), .second, lv ((p1.toInt64) &&& (2147483647 : Int64)), .second, lv ((p2.toInt64) &&& (2147483647 : Int64)), .second, lv (fMin ((p1.toInt64) &&& (2147483647 : Int64)) ((p2.toInt64) &&& (2147483647 : Int64))), .second, iv b23, lv (fMax ((p1.toInt64) &&& (2147483647 : Int64)) ((p2.toInt64) &&& (2147483647 : Int64))), .second, lv (((fMax ((p1.toInt64) &&& (2147483647 : Int64)) ((p2.toInt64) &&& (2147483647 : Int64))) * (((k.toInt64) + (3 : Int64)) + (1 : Int64))) - (fMin ((p1.toInt64) &&& (2147483647 : Int64)) ((p2.toInt64) &&& (2147483647 : Int64)))), .second] [(.int (1 : Int32))] _
            refine own_go (fun t₀ k₀ => XS.goto X26.here hx rfl (pc0 := 214) (pc' := 218) rfl (Jvm.hb hby at_214) (by decide) (by decide) k₀) ?_
            show Gm p e below T26 m 218 #[iv p0, iv p1, iv p2, iv p3, iv k, iv b2, rv r12, lv ((k.toInt64) + (3 : Int64)), .second, lv ((p1.toInt64) &&& (2147483647 : Int64)), .second, lv ((p2.toInt64) &&& (2147483647 : Int64)), .second, lv (fMin ((p1.toInt64) &&& (2147483647 : Int64)) ((p2.toInt64) &&& (2147483647 : Int64))), .second, iv b23, lv (fMax ((p1.toInt64) &&& (2147483647 : Int64)) ((p2.toInt64) &&& (2147483647 : Int64))), .second, lv (((fMax ((p1.toInt64) &&& (2147483647 : Int64)) ((p2.toInt64) &&& (2147483647 : Int64))) * (((k.toInt64) + (3 : Int64)) + (1 : Int64))) - (fMin ((p1.toInt64) &&& (2147483647 : Int64)) ((p2.toInt64) &&& (2147483647 : Int64)))), .second] [(.int (1 : Int32))] _
            exact own_retI X26 hx hlk (t := .boolean) Bd.returns rfl (by simp) (Jvm.hb hby at_218) e26 ⟨rfl, N26⟩ (by decide) (by decide)
          · have hfork := trivial
            refine own_go (fun t₀ k₀ => XS.ifNo X22.here hx rfl (Jvm.hb hby at_149) rfl (XT.i0_eq_f c24) k₀) ?_
            show Gm p e below T22 m 152 #[iv p0, iv p1, iv p2, iv p3, iv k, iv b2, rv r12, lv ((k.toInt64) + (3 : Int64)), .second, lv ((p1.toInt64) &&& (2147483647 : Int64)), .second, lv ((p2.toInt64) &&& (2147483647 : Int64)), .second, lv (fMin ((p1.toInt64) &&& (2147483647 : Int64)) ((p2.toInt64) &&& (2147483647 : Int64))), .second, iv b23, .unset, .unset, .unset, .unset] [] _
            refine own_go (fun t₀ k₀ => X22.ldc2J hx hown (mvT hZ (hw _ (List.mem_of_getElem? (i := 20) rfl))) rfl (Jvm.hb hby at_152) k₀) ?_
            show Gm p e below T22 m 155 #[iv p0, iv p1, iv p2, iv p3, iv k, iv b2, rv r12, lv ((k.toInt64) + (3 : Int64)), .second, lv ((p1.toInt64) &&& (2147483647 : Int64)), .second, lv ((p2.toInt64) &&& (2147483647 : Int64)), .second, lv (fMin ((p1.toInt64) &&& (2147483647 : Int64)) ((p2.toInt64) &&& (2147483647 : Int64))), .second, iv b23, .unset, .unset, .unset, .unset] [(.long (-1 : Int64))] _
            refine own_go (fun t₀ k₀ => XS.goto X22.here hx rfl (pc0 := 155) (pc' := 165) rfl (Jvm.hb hby at_155) (by decide) (by decide) k₀) ?_
            show Gm p e below T22 m 165 #[iv p0, iv p1, iv p2, iv p3, iv k, iv b2, rv r12, lv ((k.toInt64) + (3 : Int64)), .second, lv ((p1.toInt64) &&& (2147483647 : Int64)), .second, lv ((p2.toInt64) &&& (2147483647 : Int64)), .second, lv (fMin ((p1.toInt64) &&& (2147483647 : Int64)) ((p2.toInt64) &&& (2147483647 : Int64))), .second, iv b23, .unset, .unset, .unset, .unset] [(.long (-1 : Int64))] _
            refine own_go (fun t₀ k₀ => XS.lstore X22.here hx rfl (Jvm.hb hby at_165) rfl (l' := #[iv p0, iv p1, iv p2, iv p3, iv k, iv b2, rv r12, lv ((k.toInt64) + (3 : Int64)), .second, lv ((p1.toInt64) &&& (2147483647 : Int64)), .second, lv ((p2.toInt64) &&& (2147483647 : Int64)), .second, lv (fMin ((p1.toInt64) &&& (2147483647 : Int64)) ((p2.toInt64) &&& (2147483647 : Int64))), .second, iv b23, lv (-1 : Int64), .second, .unset, .unset]) rfl k₀) ?_
            show Gm p e below T22 m 167 #[iv p0, iv p1, iv p2, iv p3, iv k, iv b2, rv r12, lv ((k.toInt64) + (3 : Int64)), .second, lv ((p1.toInt64) &&& (2147483647 : Int64)), .second, lv ((p2.toInt64) &&& (2147483647 : Int64)), .second, lv (fMin ((p1.toInt64) &&& (2147483647 : Int64)) ((p2.toInt64) &&& (2147483647 : Int64))), .second, iv b23, lv (-1 : Int64), .second, .unset, .unset] [] _
            refine own_go (fun t₀ k₀ => XS.iload X22.here hx rfl (Jvm.hb hby at_167) rfl k₀) ?_
            show Gm p e below T22 m 169 #[iv p0, iv p1, iv p2, iv p3, iv k, iv b2, rv r12, lv ((k.toInt64) + (3 : Int64)), .second, lv ((p1.toInt64) &&& (2147483647 : Int64)), .second, lv ((p2.toInt64) &&& (2147483647 : Int64)), .second, lv (fMin ((p1.toInt64) &&& (2147483647 : Int64)) ((p2.toInt64) &&& (2147483647 : Int64))), .second, iv b23, lv (-1 : Int64), .second, .unset, .unset] [(.int b23)] _
            refine own_go (fun t₀ k₀ => XS.ifNo X22.here hx rfl (Jvm.hb hby at_169) rfl (XT.i0_eq_f c24) k₀) ?_
            show Gm p e below T22 m 172 #[iv p0, iv p1, iv p2, iv p3, iv k, iv b2, rv r12, lv ((k.toInt64) + (3 : Int64)), .second, lv ((p1.toInt64) &&& (2147483647 : Int64)), .second, lv ((p2.toInt64) &&& (2147483647 : Int64)), .second, lv (fMin ((p1.toInt64) &&& (2147483647 : Int64)) ((p2.toInt64) &&& (2147483647 : Int64))), .second, iv b23, lv (-1 : Int64), .second, .unset, .unset] [] _
            refine own_go (fun t₀ k₀ => XS.lload X22.here hx rfl (Jvm.hb hby at_172) rfl k₀) ?_
            show Gm p e below T22 m 174 #[iv p0, iv p1, iv p2, iv p3, iv k, iv b2, rv r12, lv ((k.toInt64) + (3 : Int64)), .second, lv ((p1.toInt64) &&& (2147483647 : Int64)), .second, lv ((p2.toInt64) &&& (2147483647 : Int64)), .second, lv (fMin ((p1.toInt64) &&& (2147483647 : Int64)) ((p2.toInt64) &&& (2147483647 : Int64))), .second, iv b23, lv (-1 : Int64), .second, .unset, .unset] [(.long (fMin ((p1.toInt64) &&& (2147483647 : Int64)) ((p2.toInt64) &&& (2147483647 : Int64))))] _
            refine own_go (fun t₀ k₀ => XS.lconst X22.here hx rfl (Jvm.hb hby at_174) k₀) ?_
            show Gm p e below T22 m 175 #[iv p0, iv p1, iv p2, iv p3, iv k, iv b2, rv r12, lv ((k.toInt64) + (3 : Int64)), .second, lv ((p1.toInt64) &&& (2147483647 : Int64)), .second, lv ((p2.toInt64) &&& (2147483647 : Int64)), .second, lv (fMin ((p1.toInt64) &&& (2147483647 : Int64)) ((p2.toInt64) &&& (2147483647 : Int64))), .second, iv b23, lv (-1 : Int64), .second, .unset, .unset] [(.long (1 : Int64)), (.long (fMin ((p1.toInt64) &&& (2147483647 : Int64)) ((p2.toInt64) &&& (2147483647 : Int64))))] _
            refine own_go (fun t₀ k₀ => XS.ladd X22.here hx rfl (Jvm.hb hby at_175) rfl k₀) ?_
            show Gm p e below T22 m 176 #[iv p0, iv p1, iv p2, iv p3, iv k, iv b2, rv r12, lv ((k.toInt64) + (3 : Int64)), .second, lv ((p1.toInt64) &&& (2147483647 : Int64)), .second, lv ((p2.toInt64) &&& (2147483647 : Int64)), .second, lv (fMin ((p1.toInt64) &&& (2147483647 : Int64)) ((p2.toInt64) &&& (2147483647 : Int64))), .second, iv b23, lv (-1 : Int64), .second, .unset, .unset] [(.long ((fMin ((p1.toInt64) &&& (2147483647 : Int64)) ((p2.toInt64) &&& (2147483647 : Int64))) + (1 : Int64)))] _
            refine own_go (fun t₀ k₀ => XS.lload X22.here hx rfl (Jvm.hb hby at_176) rfl k₀) ?_
            show Gm p e below T22 m 178 #[iv p0, iv p1, iv p2, iv p3, iv k, iv b2, rv r12, lv ((k.toInt64) + (3 : Int64)), .second, lv ((p1.toInt64) &&& (2147483647 : Int64)), .second, lv ((p2.toInt64) &&& (2147483647 : Int64)), .second, lv (fMin ((p1.toInt64) &&& (2147483647 : Int64)) ((p2.toInt64) &&& (2147483647 : Int64))), .second, iv b23, lv (-1 : Int64), .second, .unset, .unset] [(.long ((k.toInt64) + (3 : Int64))), (.long ((fMin ((p1.toInt64) &&& (2147483647 : Int64)) ((p2.toInt64) &&& (2147483647 : Int64))) + (1 : Int64)))] _
            refine own_go (fun t₀ k₀ => XS.lmul X22.here hx rfl (Jvm.hb hby at_178) rfl k₀) ?_
            show Gm p e below T22 m 179 #[iv p0, iv p1, iv p2, iv p3, iv k, iv b2, rv r12, lv ((k.toInt64) + (3 : Int64)), .second, lv ((p1.toInt64) &&& (2147483647 : Int64)), .second, lv ((p2.toInt64) &&& (2147483647 : Int64)), .second, lv (fMin ((p1.toInt64) &&& (2147483647 : Int64)) ((p2.toInt64) &&& (2147483647 : Int64))), .second, iv b23, lv (-1 : Int64), .second, .unset, .unset] [(.long (((fMin ((p1.toInt64) &&& (2147483647 : Int64)) ((p2.toInt64) &&& (2147483647 : Int64))) + (1 : Int64)) * ((k.toInt64) + (3 : Int64))))] _
            refine own_go (fun t₀ k₀ => X22.ldc2J hx hown (mvT hZ (hw _ (List.mem_of_getElem? (i := 21) rfl))) rfl (Jvm.hb hby at_179) k₀) ?_
            show Gm p e below T22 m 182 #[iv p0, iv p1, iv p2, iv p3, iv k, iv b2, rv r12, lv ((k.toInt64) + (3 : Int64)), .second, lv ((p1.toInt64) &&& (2147483647 : Int64)), .second, lv ((p2.toInt64) &&& (2147483647 : Int64)), .second, lv (fMin ((p1.toInt64) &&& (2147483647 : Int64)) ((p2.toInt64) &&& (2147483647 : Int64))), .second, iv b23, lv (-1 : Int64), .second, .unset, .unset] [(.long (2 : Int64)), (.long (((fMin ((p1.toInt64) &&& (2147483647 : Int64)) ((p2.toInt64) &&& (2147483647 : Int64))) + (1 : Int64)) * ((k.toInt64) + (3 : Int64))))] _
            refine own_go (fun t₀ k₀ => XS.ladd X22.here hx rfl (Jvm.hb hby at_182) rfl k₀) ?_
            show Gm p e below T22 m 183 #[iv p0, iv p1, iv p2, iv p3, iv k, iv b2, rv r12, lv ((k.toInt64) + (3 : Int64)), .second, lv ((p1.toInt64) &&& (2147483647 : Int64)), .second, lv ((p2.toInt64) &&& (2147483647 : Int64)), .second, lv (fMin ((p1.toInt64) &&& (2147483647 : Int64)) ((p2.toInt64) &&& (2147483647 : Int64))), .second, iv b23, lv (-1 : Int64), .second, .unset, .unset] [(.long ((((fMin ((p1.toInt64) &&& (2147483647 : Int64)) ((p2.toInt64) &&& (2147483647 : Int64))) + (1 : Int64)) * ((k.toInt64) + (3 : Int64))) + (2 : Int64)))] _
            refine own_go (fun t₀ k₀ => XS.goto X22.here hx rfl (pc0 := 183) (pc' := 196) rfl (Jvm.hb hby at_183) (by decide) (by decide) k₀) ?_
            show Gm p e below T22 m 196 #[iv p0, iv p1, iv p2, iv p3, iv k, iv b2, rv r12, lv ((k.toInt64) + (3 : Int64)), .second, lv ((p1.toInt64) &&& (2147483647 : Int64)), .second, lv ((p2.toInt64) &&& (2147483647 : Int64)), .second, lv (fMin ((p1.toInt64) &&& (2147483647 : Int64)) ((p2.toInt64) &&& (2147483647 : Int64))), .second, iv b23, lv (-1 : Int64), .second, .unset, .unset] [(.long ((((fMin ((p1.toInt64) &&& (2147483647 : Int64)) ((p2.toInt64) &&& (2147483647 : Int64))) + (1 : Int64)) * ((k.toInt64) + (3 : Int64))) + (2 : Int64)))] _
            refine own_go (fun t₀ k₀ => XS.lstore X22.here hx rfl (Jvm.hb hby at_196) rfl (l' := #[iv p0, iv p1, iv p2, iv p3, iv k, iv b2, rv r12, lv ((k.toInt64) + (3 : Int64)), .second, lv ((p1.toInt64) &&& (2147483647 : Int64)), .second, lv ((p2.toInt64) &&& (2147483647 : Int64)), .second, lv (fMin ((p1.toInt64) &&& (2147483647 : Int64)) ((p2.toInt64) &&& (2147483647 : Int64))), .second, iv b23, lv (-1 : Int64), .second, lv ((((fMin ((p1.toInt64) &&& (2147483647 : Int64)) ((p2.toInt64) &&& (2147483647 : Int64))) + (1 : Int64)) * ((k.toInt64) + (3 : Int64))) + (2 : Int64)), .second]) rfl k₀) ?_
            show Gm p e below T22 m 198 #[iv p0, iv p1, iv p2, iv p3, iv k, iv b2, rv r12, lv ((k.toInt64) + (3 : Int64)), .second, lv ((p1.toInt64) &&& (2147483647 : Int64)), .second, lv ((p2.toInt64) &&& (2147483647 : Int64)), .second, lv (fMin ((p1.toInt64) &&& (2147483647 : Int64)) ((p2.toInt64) &&& (2147483647 : Int64))), .second, iv b23, lv (-1 : Int64), .second, lv ((((fMin ((p1.toInt64) &&& (2147483647 : Int64)) ((p2.toInt64) &&& (2147483647 : Int64))) + (1 : Int64)) * ((k.toInt64) + (3 : Int64))) + (2 : Int64)), .second] [] _
            refine own_go (fun t₀ k₀ => XS.aload X22.here hx rfl (Jvm.hb hby at_198) rfl rfl k₀) ?_
            show Gm p e below T22 m 200 #[iv p0, iv p1, iv p2, iv p3, iv k, iv b2, rv r12, lv ((k.toInt64) + (3 : Int64)), .second, lv ((p1.toInt64) &&& (2147483647 : Int64)), .second, lv ((p2.toInt64) &&& (2147483647 : Int64)), .second, lv (fMin ((p1.toInt64) &&& (2147483647 : Int64)) ((p2.toInt64) &&& (2147483647 : Int64))), .second, iv b23, lv (-1 : Int64), .second, lv ((((fMin ((p1.toInt64) &&& (2147483647 : Int64)) ((p2.toInt64) &&& (2147483647 : Int64))) + (1 : Int64)) * ((k.toInt64) + (3 : Int64))) + (2 : Int64)), .second] [(.ref r12)] _
            refine own_go (fun t₀ k₀ => XS.lload X22.here hx rfl (Jvm.hb hby at_200) rfl k₀) ?_
            show Gm p e below T22 m 202 #[iv p0, iv p1, iv p2, iv p3, iv k, iv b2, rv r12, lv ((k.toInt64) + (3 : Int64)), .second, lv ((p1.toInt64) &&& (2147483647 : Int64)), .second, lv ((p2.toInt64) &&& (2147483647 : Int64)), .second, lv (fMin ((p1.toInt64) &&& (2147483647 : Int64)) ((p2.toInt64) &&& (2147483647 : Int64))), .second, iv b23, lv (-1 : Int64), .second, lv ((((fMin ((p1.toInt64) &&& (2147483647 : Int64)) ((p2.toInt64) &&& (2147483647 : Int64))) + (1 : Int64)) * ((k.toInt64) + (3 : Int64))) + (2 : Int64)), .second] [(.long (fMin ((p1.toInt64) &&& (2147483647 : Int64)) ((p2.toInt64) &&& (2147483647 : Int64)))), (.ref r12)] _
            refine own_go (fun t₀ k₀ => XS.lload X22.here hx rfl (Jvm.hb hby at_202) rfl k₀) ?_
            show Gm p e below T22 m 204 #[iv p0, iv p1, iv p2, iv p3, iv k, iv b2, rv r12, lv ((k.toInt64) + (3 : Int64)), .second, lv ((p1.toInt64) &&& (2147483647 : Int64)), .second, lv ((p2.toInt64) &&& (2147483647 : Int64)), .second, lv (fMin ((p1.toInt64) &&& (2147483647 : Int64)) ((p2.toInt64) &&& (2147483647 : Int64))), .second, iv b23, lv (-1 : Int64), .second, lv ((((fMin ((p1.toInt64) &&& (2147483647 : Int64)) ((p2.toInt64) &&& (2147483647 : Int64))) + (1 : Int64)) * ((k.toInt64) + (3 : Int64))) + (2 : Int64)), .second] [(.long (-1 : Int64)), (.long (fMin ((p1.toInt64) &&& (2147483647 : Int64)) ((p2.toInt64) &&& (2147483647 : Int64)))), (.ref r12)] _
            obtain ⟨cq27, kq27, q27a, q27b, q27c⟩ := isOf hZ e22 Ec12
            obtain ⟨_, _, ⟨T27, L27, k27, n27⟩, -, X27, ⟨Lc27, hQ27, l27, y27, z27⟩, st27⟩ := X22.virtualBack hx (y := (⟨"com/example/data_in_bounds/datainbounds/metapath/RegexProgram$Fragment", "repeatedLength", "(JJ)J"⟩ : MethodName)) (z := (⟨"com/example/data_in_bounds/datainbounds/metapath/RegexProgram$Fragment", "repeatedLength", "(JJ)J"⟩ : MethodName)) hown (mvT hZ (hw _ (List.mem_of_getElem? (i := 22) rfl))) (mvT hZ (hw _ (List.mem_of_getElem? (i := 23) rfl))) (notFace_of_selects (args := #[]) (mvT hZ (hw _ (List.mem_of_getElem? (i := 25) rfl)))) (mvT hZ (hw _ (List.mem_of_getElem? (i := 25) rfl))) (mvT hZ (hw _ (List.mem_of_getElem? (i := 24) rfl))) (by decide) (backOf (W := 0) (rm4 l Z a0 hw [] r12 (fMin ((p1.toInt64) &&& (2147483647 : Int64)) ((p2.toInt64) &&& (2147483647 : Int64))) (-1 : Int64) (1 : Int32) b2 T12.heap n0 Z12 Flen12 Fnul12) hZ (hw _ (List.mem_of_getElem? (i := 26) rfl)) (hw _ (List.mem_of_getElem? (i := 2) rfl)) (by decide) (by decide)) q27a q27c (g := (mkF m 204 #[iv p0, iv p1, iv p2, iv p3, iv k, iv b2, rv r12, lv ((k.toInt64) + (3 : Int64)), .second, lv ((p1.toInt64) &&& (2147483647 : Int64)), .second, lv ((p2.toInt64) &&& (2147483647 : Int64)), .second, lv (fMin ((p1.toInt64) &&& (2147483647 : Int64)) ((p2.toInt64) &&& (2147483647 : Int64))), .second, iv b23, lv (-1 : Int64), .second, lv ((((fMin ((p1.toInt64) &&& (2147483647 : Int64)) ((p2.toInt64) &&& (2147483647 : Int64))) + (1 : Int64)) * ((k.toInt64) + (3 : Int64))) + (2 : Int64)), .second] [(.long (-1 : Int64)), (.long (fMin ((p1.toInt64) &&& (2147483647 : Int64)) ((p2.toInt64) &&& (2147483647 : Int64)))), (.ref r12)])) rfl (by rw [hml]; rfl) (Steps.refl _) (argsL := [(.long (fMin ((p1.toInt64) &&& (2147483647 : Int64)) ((p2.toInt64) &&& (2147483647 : Int64)))), (.long (-1 : Int64))]) (rest := []) (lenOf own_pd4 rfl) rfl (by show 2 * 0 + _ ≤ _; exact Nat.le_of_eq rfl) (Jvm.hb hby at_204) (fun _ _ => ⟨rfl, e22, (by decide : 2 + 0 ≤ _), (by decide : 12 + 0 ≤ _)⟩)
            dsimp only [Pt.U, Pt.locs, Pt.cells, Pt.slots] at X27 l27 y27 z27 st27 hQ27
            subst l27 y27 z27
            obtain ⟨rfl, Nq27, eq27⟩ := hQ27
            have N27 := Fr.app N22 Nq27
            have e27 : T27.heap = T12.heap := eq27
            refine own_go (fun t k => st27.trans k) ?_
            show Gm p e below T27 m 207 #[iv p0, iv p1, iv p2, iv p3, iv k, iv b2, rv r12, lv ((k.toInt64) + (3 : Int64)), .second, lv ((p1.toInt64) &&& (2147483647 : Int64)), .second, lv ((p2.toInt64) &&& (2147483647 : Int64)), .second, lv (fMin ((p1.toInt64) &&& (2147483647 : Int64)) ((p2.toInt64) &&& (2147483647 : Int64))), .second, iv b23, lv (-1 : Int64), .second, lv ((((fMin ((p1.toInt64) &&& (2147483647 : Int64)) ((p2.toInt64) &&& (2147483647 : Int64))) + (1 : Int64)) * ((k.toInt64) + (3 : Int64))) + (2 : Int64)), .second] [(.long (fR (fMin ((p1.toInt64) &&& (2147483647 : Int64)) ((p2.toInt64) &&& (2147483647 : Int64))) (-1 : Int64) (1 : Int32) b2))] _
            refine own_go (fun t₀ k₀ => XS.lload X27.here hx rfl (Jvm.hb hby at_207) rfl k₀) ?_
            show Gm p e below T27 m 209 #[iv p0, iv p1, iv p2, iv p3, iv k, iv b2, rv r12, lv ((k.toInt64) + (3 : Int64)), .second, lv ((p1.toInt64) &&& (2147483647 : Int64)), .second, lv ((p2.toInt64) &&& (2147483647 : Int64)), .second, lv (fMin ((p1.toInt64) &&& (2147483647 : Int64)) ((p2.toInt64) &&& (2147483647 : Int64))), .second, iv b23, lv (-1 : Int64), .second, lv ((((fMin ((p1.toInt64) &&& (2147483647 : Int64)) ((p2.toInt64) &&& (2147483647 : Int64))) + (1 : Int64)) * ((k.toInt64) + (3 : Int64))) + (2 : Int64)), .second] [(.long ((((fMin ((p1.toInt64) &&& (2147483647 : Int64)) ((p2.toInt64) &&& (2147483647 : Int64))) + (1 : Int64)) * ((k.toInt64) + (3 : Int64))) + (2 : Int64))), (.long (fR (fMin ((p1.toInt64) &&& (2147483647 : Int64)) ((p2.toInt64) &&& (2147483647 : Int64))) (-1 : Int64) (1 : Int32) b2))] _
            refine own_go (fun t₀ k₀ => XT.lcmp X27.here hx rfl (Jvm.hb hby at_209) rfl k₀) ?_
            show Gm p e below T27 m 210 #[iv p0, iv p1, iv p2, iv p3, iv k, iv b2, rv r12, lv ((k.toInt64) + (3 : Int64)), .second, lv ((p1.toInt64) &&& (2147483647 : Int64)), .second, lv ((p2.toInt64) &&& (2147483647 : Int64)), .second, lv (fMin ((p1.toInt64) &&& (2147483647 : Int64)) ((p2.toInt64) &&& (2147483647 : Int64))), .second, iv b23, lv (-1 : Int64), .second, lv ((((fMin ((p1.toInt64) &&& (2147483647 : Int64)) ((p2.toInt64) &&& (2147483647 : Int64))) + (1 : Int64)) * ((k.toInt64) + (3 : Int64))) + (2 : Int64)), .second] [(.int (XT.cmpL (fR (fMin ((p1.toInt64) &&& (2147483647 : Int64)) ((p2.toInt64) &&& (2147483647 : Int64))) (-1 : Int64) (1 : Int32) b2) ((((fMin ((p1.toInt64) &&& (2147483647 : Int64)) ((p2.toInt64) &&& (2147483647 : Int64))) + (1 : Int64)) * ((k.toInt64) + (3 : Int64))) + (2 : Int64))))] _
            refine own_go (fun t₀ k₀ => XS.ifNo X27.here hx rfl (Jvm.hb hby at_210) rfl (XT.ll_ne_f (own_fin _ _ _ _ ((k.toInt64) + (3 : Int64)) _ (by rw [hk, if_neg c15]; decide) (by rw [if_pos (by decide)]; try rfl))) k₀) ?_
            show Gm p e below T27 m 213 #[iv p0, iv p1, iv p2, iv p3, iv k, iv b2, rv r12, lv ((k.toInt64) + (3 : Int64)), .second, lv ((p1.toInt64) &&& (2147483647 : Int64)), .second, lv ((p2.toInt64) &&& (2147483647 : Int64)), .second, lv (fMin ((p1.toInt64) &&& (2147483647 : Int64)) ((p2.toInt64) &&& (2147483647 : Int64))), .second, iv b23, lv (-1 : Int64), .second, lv ((((fMin ((p1.toInt64) &&& (2147483647 : Int64)) ((p2.toInt64) &&& (2147483647 : Int64))) + (1 : Int64)) * ((k.toInt64) + (3 : Int64))) + (2 : Int64)), .second] [] _
            refine own_go (fun t₀ k₀ => XS.iconst X27.here hx rfl (Jvm.hb hby at_213) k₀) ?_
            show Gm p e below T27 m 214 #[iv p0, iv p1, iv p2, iv p3, iv k, iv b2, rv r12, lv ((k.toInt64) + (3 : Int64)), .second, lv ((p1.toInt64) &&& (2147483647 : Int64)), .second, lv ((p2.toInt64) &&& (2147483647 : Int64)), .second, lv (fMin ((p1.toInt64) &&& (2147483647 : Int64)) ((p2.toInt64) &&& (2147483647 : Int64))), .second, iv b23, lv (-1 : Int64), .second, lv ((((fMin ((p1.toInt64) &&& (2147483647 : Int64)) ((p2.toInt64) &&& (2147483647 : Int64))) + (1 : Int64)) * ((k.toInt64) + (3 : Int64))) + (2 : Int64)), .second] [(.int (1 : Int32))] _
            refine own_go (fun t₀ k₀ => XS.goto X27.here hx rfl (pc0 := 214) (pc' := 218) rfl (Jvm.hb hby at_214) (by decide) (by decide) k₀) ?_
            show Gm p e below T27 m 218 #[iv p0, iv p1, iv p2, iv p3, iv k, iv b2, rv r12, lv ((k.toInt64) + (3 : Int64)), .second, lv ((p1.toInt64) &&& (2147483647 : Int64)), .second, lv ((p2.toInt64) &&& (2147483647 : Int64)), .second, lv (fMin ((p1.toInt64) &&& (2147483647 : Int64)) ((p2.toInt64) &&& (2147483647 : Int64))), .second, iv b23, lv (-1 : Int64), .second, lv ((((fMin ((p1.toInt64) &&& (2147483647 : Int64)) ((p2.toInt64) &&& (2147483647 : Int64))) + (1 : Int64)) * ((k.toInt64) + (3 : Int64))) + (2 : Int64)), .second] [(.int (1 : Int32))] _
            exact own_retI X27 hx hlk (t := .boolean) Bd.returns rfl (by simp) (Jvm.hb hby at_218) e27 ⟨rfl, N27⟩ (by decide) (by decide)
      · have hfork := trivial
        refine own_go (fun t₀ k₀ => XS.icmpNo X12.here hx rfl (Jvm.hb hby at_65) rfl (XT.ii_lt_f c14) k₀) ?_
        show Gm p e below T12 m 68 #[iv p0, iv p1, iv p2, iv p3, iv k, iv b2, rv r12, .unset, .unset, .unset, .unset, .unset, .unset, .unset, .unset, .unset, .unset, .unset, .unset, .unset] [] _
        refine own_go (fun t₀ k₀ => XS.aload X12.here hx rfl (Jvm.hb hby at_68) rfl rfl k₀) ?_
        show Gm p e below T12 m 70 #[iv p0, iv p1, iv p2, iv p3, iv k, iv b2, rv r12, .unset, .unset, .unset, .unset, .unset, .unset, .unset, .unset, .unset, .unset, .unset, .unset, .unset] [(.ref r12)] _
        refine own_go (fun t₀ k₀ => XS.iconst X12.here hx rfl (Jvm.hb hby at_70) k₀) ?_
        show Gm p e below T12 m 71 #[iv p0, iv p1, iv p2, iv p3, iv k, iv b2, rv r12, .unset, .unset, .unset, .unset, .unset, .unset, .unset, .unset, .unset, .unset, .unset, .unset, .unset] [(.int (0 : Int32)), (.ref r12)] _
        refine own_go (fun t₀ k₀ => XS.iconst X12.here hx rfl (Jvm.hb hby at_71) k₀) ?_
        show Gm p e below T12 m 72 #[iv p0, iv p1, iv p2, iv p3, iv k, iv b2, rv r12, .unset, .unset, .unset, .unset, .unset, .unset, .unset, .unset, .unset, .unset, .unset, .unset, .unset] [(.int (0 : Int32)), (.int (0 : Int32)), (.ref r12)] _
        refine own_go (fun t₀ k₀ => XS.iconst X12.here hx rfl (Jvm.hb hby at_72) k₀) ?_
        show Gm p e below T12 m 73 #[iv p0, iv p1, iv p2, iv p3, iv k, iv b2, rv r12, .unset, .unset, .unset, .unset, .unset, .unset, .unset, .unset, .unset, .unset, .unset, .unset, .unset] [(.int (1 : Int32)), (.int (0 : Int32)), (.int (0 : Int32)), (.ref r12)] _
        obtain ⟨_, _, ⟨T28, L28, k28, n28⟩, -, X28, ⟨Lc28, hQ28, l28, y28, z28⟩, st28⟩ := Jvm.LawKit.callS X12 hx (y := (⟨"com/example/data_in_bounds/datainbounds/metapath/RegexProgram$Fragment", "of", "(IIZ)Lcom/example/data_in_bounds/datainbounds/metapath/RegexProgram$Fragment;"⟩ : MethodName)) hown (mvT hZ (hw _ (List.mem_of_getElem? (i := 33) rfl))) (mvT hZ (hw _ (List.mem_of_getElem? (i := 34) rfl))) (mvT hZ (hw _ (List.mem_of_getElem? (i := 2) rfl))) (mvT hZ (hw _ (List.mem_of_getElem? (i := 35) rfl))) (by decide) (backOf (W := 1) (rm6 l Z a0 hw [] (0 : Int32) (0 : Int32) (1 : Int32) T12.heap n0 Z12 (Or.inr rfl)) hZ (hw _ (List.mem_of_getElem? (i := 35) rfl)) (hw _ (List.mem_of_getElem? (i := 2) rfl)) (by decide) (by decide)) (g := (mkF m 73 #[iv p0, iv p1, iv p2, iv p3, iv k, iv b2, rv r12, .unset, .unset, .unset, .unset, .unset, .unset, .unset, .unset, .unset, .unset, .unset, .unset, .unset] [(.int (1 : Int32)), (.int (0 : Int32)), (.int (0 : Int32)), (.ref r12)])) rfl (by rw [hml]; rfl) (argsL := [(.int (0 : Int32)), (.int (0 : Int32)), (.int (1 : Int32))]) (rest := [(.ref r12)]) (lenOf own_pd5 rfl) rfl (by show 2 * 0 + _ ≤ _; exact Nat.le_of_eq rfl) (Jvm.hb hby at_73) (fun _ _ => ⟨rfl, rfl, (by decide : 2 + 2 ≤ _), (by decide : 12 + 12 ≤ _)⟩)
        dsimp only [Pt.U, Pt.locs, Pt.cells, Pt.slots] at X28 l28 y28 z28 st28 hQ28
        subst l28 y28 z28
        obtain ⟨r28, c28, f28, rfl, Nq28, Kc28, hr28, hc28, nrc28, Ec28, Fcode28, Flen28, Fnul28, Fhei28, Ac28⟩ := hQ28
        have N28 := Fr.app N12 Nq28
        refine own_go st28 ?_
        have ne_r12_r28 : r12 ≠ r28 := Nat.ne_of_lt (Nat.lt_of_lt_of_le Ec12.lt hr28)
        have ne_r12_c28 : r12 ≠ c28 := Nat.ne_of_lt (Nat.lt_of_lt_of_le Ec12.lt hc28)
        have ne_c12_r28 : c12 ≠ r28 := Nat.ne_of_lt (Nat.lt_of_lt_of_le Ac12.lt hr28)
        have ne_c12_c28 : c12 ≠ c28 := Nat.ne_of_lt (Nat.lt_of_lt_of_le Ac12.lt hc28)
        have g_r28 : n0 ≤ r28 := Nat.le_trans Z12 hr28
        have g_c28 : n0 ≤ c28 := Nat.le_trans Z12 hc28
        have Z28 : n0 ≤ T28.heap.size := Nat.le_trans Z12 Kc28.1
        show Gm p e below T28 m 76 #[iv p0, iv p1, iv p2, iv p3, iv k, iv b2, rv r12, .unset, .unset, .unset, .unset, .unset, .unset, .unset, .unset, .unset, .unset, .unset, .unset, .unset] [(.ref r28), (.ref r12)] _
        have f29 := (Fcode12.keep Kc28 nin0)
        have f30 := (Flen12.keep Kc28 nin0)
        have f31 := (Fnul12.keep Kc28 nin0)
        have f32 := (Fhei12.keep Kc28 nin0)
        have f33 := (Ac12.keep Kc28 nin0)
        have f34 := (Ec12.keep Kc28)
        obtain ⟨cq35, kq35, q35a, q35b, q35c⟩ := isOf hZ rfl f34
        obtain ⟨_, _, ⟨T35, L35, k35, n35⟩, -, X35, ⟨Lc35, hQ35, l35, y35, z35⟩, st35⟩ := X28.virtualBack hx (y := (⟨"com/example/data_in_bounds/datainbounds/metapath/RegexProgram$Fragment", "append", "(Lcom/example/data_in_bounds/datainbounds/metapath/RegexProgram$Fragment;)Lcom/example/data_in_bounds/datainbounds/metapath/RegexProgram$Fragment;"⟩ : MethodName)) (z := (⟨"com/example/data_in_bounds/datainbounds/metapath/RegexProgram$Fragment", "append", "(Lcom/example/data_in_bounds/datainbounds/metapath/RegexProgram$Fragment;)Lcom/example/data_in_bounds/datainbounds/metapath/RegexProgram$Fragment;"⟩ : MethodName)) hown (mvT hZ (hw _ (List.mem_of_getElem? (i := 46) rfl))) (mvT hZ (hw _ (List.mem_of_getElem? (i := 47) rfl))) (notFace_of_selects (args := #[]) (mvT hZ (hw _ (List.mem_of_getElem? (i := 49) rfl)))) (mvT hZ (hw _ (List.mem_of_getElem? (i := 49) rfl))) (mvT hZ (hw _ (List.mem_of_getElem? (i := 48) rfl))) (by decide) (backOf (W := 0) (rm9 l Z a0 hw [] r12 r28 c12 c28 (1 : Int32) b2 (1 : Int32) f12 f28 T28.heap n0 Z28 f34 f29 f30 f31 f32 f33 Ec28 Fcode28 Flen28 Fnul28 Fhei28 Ac28 ne_r12_r28 nrc12 ne_r12_c28 (Ne.symm ne_c12_r28) (Ne.symm ne_c12_c28) g_r12 g_c12 (by decide) (by decide) (by decide) (by rw [hb2]; split <;> simp) (Or.inr rfl)) hZ (hw _ (List.mem_of_getElem? (i := 50) rfl)) (hw _ (List.mem_of_getElem? (i := 2) rfl)) (by decide) (by decide)) q35a q35c (g := (mkF m 76 #[iv p0, iv p1, iv p2, iv p3, iv k, iv b2, rv r12, .unset, .unset, .unset, .unset, .unset, .unset, .unset, .unset, .unset, .unset, .unset, .unset, .unset] [(.ref r28), (.ref r12)])) rfl (by rw [hml]; rfl) (Steps.refl _) (argsL := [(.ref r28)]) (rest := []) (lenOf own_pd6 rfl) rfl (by show 2 * 0 + _ ≤ _; exact Nat.le_of_eq rfl) (Jvm.hb hby at_76) (fun _ _ => ⟨rfl, rfl, (by decide : 4 + 0 ≤ _), (by decide : 24 + 0 ≤ _)⟩)
        dsimp only [Pt.U, Pt.locs, Pt.cells, Pt.slots] at X35 l35 y35 z35 st35 hQ35
        subst l35 y35 z35
        obtain ⟨rfl, Nq35, Kc35, Ec35, Fcode35, Flen35, Fnul35, Fhei35, f35, Ac35⟩ := hQ35
        have N35 := Fr.app N28 Nq35
        refine own_go (fun t k => st35.trans k) ?_
        have Z35 : n0 ≤ T35.heap.size := Nat.le_trans Z28 Kc35.1
        show Gm p e below T35 m 79 #[iv p0, iv p1, iv p2, iv p3, iv k, iv b2, rv r12, .unset, .unset, .unset, .unset, .unset, .unset, .unset, .unset, .unset, .unset, .unset, .unset, .unset] [(.ref r12)] _
        refine own_go (fun t₀ k₀ => XS.pop X35.here hx rfl (Jvm.hb hby at_79) rfl rfl k₀) ?_
        exact absurd c13 (own_kx _ c14)
    · have hfork := trivial
      refine own_go (fun t₀ k₀ => XS.icmpNo X12.here hx rfl (Jvm.hb hby at_47) rfl (XT.ii_lt_f c13) k₀) ?_
      show Gm p e below T12 m 50 #[iv p0, iv p1, iv p2, iv p3, iv k, iv b2, rv r12, .unset, .unset, .unset, .unset, .unset, .unset, .unset, .unset, .unset, .unset, .unset, .unset, .unset] [] _
      refine own_go (fun t₀ k₀ => XS.aload X12.here hx rfl (Jvm.hb hby at_50) rfl rfl k₀) ?_
      show Gm p e below T12 m 52 #[iv p0, iv p1, iv p2, iv p3, iv k, iv b2, rv r12, .unset, .unset, .unset, .unset, .unset, .unset, .unset, .unset, .unset, .unset, .unset, .unset, .unset] [(.ref r12)] _
      refine own_go (fun t₀ k₀ => XS.iconst X12.here hx rfl (Jvm.hb hby at_52) k₀) ?_
      show Gm p e below T12 m 53 #[iv p0, iv p1, iv p2, iv p3, iv k, iv b2, rv r12, .unset, .unset, .unset, .unset, .unset, .unset, .unset, .unset, .unset, .unset, .unset, .unset, .unset] [(.int (0 : Int32)), (.ref r12)] _
      refine own_go (fun t₀ k₀ => XS.iconst X12.here hx rfl (Jvm.hb hby at_53) k₀) ?_
      show Gm p e below T12 m 54 #[iv p0, iv p1, iv p2, iv p3, iv k, iv b2, rv r12, .unset, .unset, .unset, .unset, .unset, .unset, .unset, .unset, .unset, .unset, .unset, .unset, .unset] [(.int (0 : Int32)), (.int (0 : Int32)), (.ref r12)] _
      refine own_go (fun t₀ k₀ => XS.iconst X12.here hx rfl (Jvm.hb hby at_54) k₀) ?_
      show Gm p e below T12 m 55 #[iv p0, iv p1, iv p2, iv p3, iv k, iv b2, rv r12, .unset, .unset, .unset, .unset, .unset, .unset, .unset, .unset, .unset, .unset, .unset, .unset, .unset] [(.int (1 : Int32)), (.int (0 : Int32)), (.int (0 : Int32)), (.ref r12)] _
      obtain ⟨_, _, ⟨T36, L36, k36, n36⟩, -, X36, ⟨Lc36, hQ36, l36, y36, z36⟩, st36⟩ := Jvm.LawKit.callS X12 hx (y := (⟨"com/example/data_in_bounds/datainbounds/metapath/RegexProgram$Fragment", "of", "(IIZ)Lcom/example/data_in_bounds/datainbounds/metapath/RegexProgram$Fragment;"⟩ : MethodName)) hown (mvT hZ (hw _ (List.mem_of_getElem? (i := 33) rfl))) (mvT hZ (hw _ (List.mem_of_getElem? (i := 34) rfl))) (mvT hZ (hw _ (List.mem_of_getElem? (i := 2) rfl))) (mvT hZ (hw _ (List.mem_of_getElem? (i := 35) rfl))) (by decide) (backOf (W := 1) (rm6 l Z a0 hw [] (0 : Int32) (0 : Int32) (1 : Int32) T12.heap n0 Z12 (Or.inr rfl)) hZ (hw _ (List.mem_of_getElem? (i := 35) rfl)) (hw _ (List.mem_of_getElem? (i := 2) rfl)) (by decide) (by decide)) (g := (mkF m 55 #[iv p0, iv p1, iv p2, iv p3, iv k, iv b2, rv r12, .unset, .unset, .unset, .unset, .unset, .unset, .unset, .unset, .unset, .unset, .unset, .unset, .unset] [(.int (1 : Int32)), (.int (0 : Int32)), (.int (0 : Int32)), (.ref r12)])) rfl (by rw [hml]; rfl) (argsL := [(.int (0 : Int32)), (.int (0 : Int32)), (.int (1 : Int32))]) (rest := [(.ref r12)]) (lenOf own_pd5 rfl) rfl (by show 2 * 0 + _ ≤ _; exact Nat.le_of_eq rfl) (Jvm.hb hby at_55) (fun _ _ => ⟨rfl, rfl, (by decide : 2 + 2 ≤ _), (by decide : 12 + 12 ≤ _)⟩)
      dsimp only [Pt.U, Pt.locs, Pt.cells, Pt.slots] at X36 l36 y36 z36 st36 hQ36
      subst l36 y36 z36
      obtain ⟨r36, c36, f36, rfl, Nq36, Kc36, hr36, hc36, nrc36, Ec36, Fcode36, Flen36, Fnul36, Fhei36, Ac36⟩ := hQ36
      have N36 := Fr.app N12 Nq36
      refine own_go st36 ?_
      have ne_r12_r36 : r12 ≠ r36 := Nat.ne_of_lt (Nat.lt_of_lt_of_le Ec12.lt hr36)
      have ne_r12_c36 : r12 ≠ c36 := Nat.ne_of_lt (Nat.lt_of_lt_of_le Ec12.lt hc36)
      have ne_c12_r36 : c12 ≠ r36 := Nat.ne_of_lt (Nat.lt_of_lt_of_le Ac12.lt hr36)
      have ne_c12_c36 : c12 ≠ c36 := Nat.ne_of_lt (Nat.lt_of_lt_of_le Ac12.lt hc36)
      have g_r36 : n0 ≤ r36 := Nat.le_trans Z12 hr36
      have g_c36 : n0 ≤ c36 := Nat.le_trans Z12 hc36
      have Z36 : n0 ≤ T36.heap.size := Nat.le_trans Z12 Kc36.1
      show Gm p e below T36 m 58 #[iv p0, iv p1, iv p2, iv p3, iv k, iv b2, rv r12, .unset, .unset, .unset, .unset, .unset, .unset, .unset, .unset, .unset, .unset, .unset, .unset, .unset] [(.ref r36), (.ref r12)] _
      have f37 := (Fcode12.keep Kc36 nin0)
      have f38 := (Flen12.keep Kc36 nin0)
      have f39 := (Fnul12.keep Kc36 nin0)
      have f40 := (Fhei12.keep Kc36 nin0)
      have f41 := (Ac12.keep Kc36 nin0)
      have f42 := (Ec12.keep Kc36)
      obtain ⟨cq43, kq43, q43a, q43b, q43c⟩ := isOf hZ rfl f42
      obtain ⟨_, _, ⟨T43, L43, k43, n43⟩, -, X43, ⟨Lc43, hQ43, l43, y43, z43⟩, st43⟩ := X36.virtualBack hx (y := (⟨"com/example/data_in_bounds/datainbounds/metapath/RegexProgram$Fragment", "append", "(Lcom/example/data_in_bounds/datainbounds/metapath/RegexProgram$Fragment;)Lcom/example/data_in_bounds/datainbounds/metapath/RegexProgram$Fragment;"⟩ : MethodName)) (z := (⟨"com/example/data_in_bounds/datainbounds/metapath/RegexProgram$Fragment", "append", "(Lcom/example/data_in_bounds/datainbounds/metapath/RegexProgram$Fragment;)Lcom/example/data_in_bounds/datainbounds/metapath/RegexProgram$Fragment;"⟩ : MethodName)) hown (mvT hZ (hw _ (List.mem_of_getElem? (i := 46) rfl))) (mvT hZ (hw _ (List.mem_of_getElem? (i := 47) rfl))) (notFace_of_selects (args := #[]) (mvT hZ (hw _ (List.mem_of_getElem? (i := 49) rfl)))) (mvT hZ (hw _ (List.mem_of_getElem? (i := 49) rfl))) (mvT hZ (hw _ (List.mem_of_getElem? (i := 48) rfl))) (by decide) (backOf (W := 0) (rm9 l Z a0 hw [] r12 r36 c12 c36 (1 : Int32) b2 (1 : Int32) f12 f36 T36.heap n0 Z36 f42 f37 f38 f39 f40 f41 Ec36 Fcode36 Flen36 Fnul36 Fhei36 Ac36 ne_r12_r36 nrc12 ne_r12_c36 (Ne.symm ne_c12_r36) (Ne.symm ne_c12_c36) g_r12 g_c12 (by decide) (by decide) (by decide) (by rw [hb2]; split <;> simp) (Or.inr rfl)) hZ (hw _ (List.mem_of_getElem? (i := 50) rfl)) (hw _ (List.mem_of_getElem? (i := 2) rfl)) (by decide) (by decide)) q43a q43c (g := (mkF m 58 #[iv p0, iv p1, iv p2, iv p3, iv k, iv b2, rv r12, .unset, .unset, .unset, .unset, .unset, .unset, .unset, .unset, .unset, .unset, .unset, .unset, .unset] [(.ref r36), (.ref r12)])) rfl (by rw [hml]; rfl) (Steps.refl _) (argsL := [(.ref r36)]) (rest := []) (lenOf own_pd6 rfl) rfl (by show 2 * 0 + _ ≤ _; exact Nat.le_of_eq rfl) (Jvm.hb hby at_58) (fun _ _ => ⟨rfl, rfl, (by decide : 4 + 0 ≤ _), (by decide : 24 + 0 ≤ _)⟩)
      dsimp only [Pt.U, Pt.locs, Pt.cells, Pt.slots] at X43 l43 y43 z43 st43 hQ43
      subst l43 y43 z43
      obtain ⟨rfl, Nq43, Kc43, Ec43, Fcode43, Flen43, Fnul43, Fhei43, f43, Ac43⟩ := hQ43
      have N43 := Fr.app N36 Nq43
      refine own_go (fun t k => st43.trans k) ?_
      have Z43 : n0 ≤ T43.heap.size := Nat.le_trans Z36 Kc43.1
      show Gm p e below T43 m 61 #[iv p0, iv p1, iv p2, iv p3, iv k, iv b2, rv r12, .unset, .unset, .unset, .unset, .unset, .unset, .unset, .unset, .unset, .unset, .unset, .unset, .unset] [(.ref r12)] _
      refine own_go (fun t₀ k₀ => XS.pop X43.here hx rfl (Jvm.hb hby at_61) rfl rfl k₀) ?_
      show Gm p e below T43 m 62 #[iv p0, iv p1, iv p2, iv p3, iv k, iv b2, rv r12, .unset, .unset, .unset, .unset, .unset, .unset, .unset, .unset, .unset, .unset, .unset, .unset, .unset] [] _
      refine own_go (fun t₀ k₀ => XS.iload X43.here hx rfl (Jvm.hb hby at_62) rfl k₀) ?_
      show Gm p e below T43 m 64 #[iv p0, iv p1, iv p2, iv p3, iv k, iv b2, rv r12, .unset, .unset, .unset, .unset, .unset, .unset, .unset, .unset, .unset, .unset, .unset, .unset, .unset] [(.int k)] _
      refine own_go (fun t₀ k₀ => XS.iconst X43.here hx rfl (Jvm.hb hby at_64) k₀) ?_
      show Gm p e below T43 m 65 #[iv p0, iv p1, iv p2, iv p3, iv k, iv b2, rv r12, .unset, .unset, .unset, .unset, .unset, .unset, .unset, .unset, .unset, .unset, .unset, .unset, .unset] [(.int (3 : Int32)), (.int k)] _
      by_cases c44 : k < (3 : Int32)
      · have hfork := trivial
        refine own_go (fun t₀ k₀ => XS.icmpYes X43.here hx rfl (pc0 := 65) (pc' := 80) rfl (Jvm.hb hby at_65) rfl (XT.ii_lt_t c44) (by decide) (by decide) k₀) ?_
        have hk := own_k2 _ c13 c44
        show Gm p e below T43 m 80 #[iv p0, iv p1, iv p2, iv p3, iv k, iv b2, rv r12, .unset, .unset, .unset, .unset, .unset, .unset, .unset, .unset, .unset, .unset, .unset, .unset, .unset] [] _
        refine own_go (fun t₀ k₀ => XS.iload X43.here hx rfl (Jvm.hb hby at_80) rfl k₀) ?_
        show Gm p e below T43 m 82 #[iv p0, iv p1, iv p2, iv p3, iv k, iv b2, rv r12, .unset, .unset, .unset, .unset, .unset, .unset, .unset, .unset, .unset, .unset, .unset, .unset, .unset] [(.int k)] _
        refine own_go (fun t₀ k₀ => XS.ifYes X43.here hx rfl (pc0 := 82) (pc' := 91) rfl (Jvm.hb hby at_82) rfl (XT.i0_ne_t c3) (by decide) (by decide) k₀) ?_
        show Gm p e below T43 m 91 #[iv p0, iv p1, iv p2, iv p3, iv k, iv b2, rv r12, .unset, .unset, .unset, .unset, .unset, .unset, .unset, .unset, .unset, .unset, .unset, .unset, .unset] [] _
        refine own_go (fun t₀ k₀ => XS.iload X43.here hx rfl (Jvm.hb hby at_91) rfl k₀) ?_
        show Gm p e below T43 m 93 #[iv p0, iv p1, iv p2, iv p3, iv k, iv b2, rv r12, .unset, .unset, .unset, .unset, .unset, .unset, .unset, .unset, .unset, .unset, .unset, .unset, .unset] [(.int k)] _
        refine own_go (fun t₀ k₀ => XS.i2l X43.here hx rfl (Jvm.hb hby at_93) rfl k₀) ?_
        show Gm p e below T43 m 94 #[iv p0, iv p1, iv p2, iv p3, iv k, iv b2, rv r12, .unset, .unset, .unset, .unset, .unset, .unset, .unset, .unset, .unset, .unset, .unset, .unset, .unset] [(.long (k.toInt64))] _
        refine own_go (fun t₀ k₀ => XS.iload X43.here hx rfl (Jvm.hb hby at_94) rfl k₀) ?_
        show Gm p e below T43 m 96 #[iv p0, iv p1, iv p2, iv p3, iv k, iv b2, rv r12, .unset, .unset, .unset, .unset, .unset, .unset, .unset, .unset, .unset, .unset, .unset, .unset, .unset] [(.int b2), (.long (k.toInt64))] _
        by_cases c45 : b2 = (0 : Int32)
        · have hfork := trivial
          refine own_go (fun t₀ k₀ => XS.ifYes X43.here hx rfl (pc0 := 96) (pc' := 105) rfl (Jvm.hb hby at_96) rfl (XT.i0_eq_t c45) (by decide) (by decide) k₀) ?_
          show Gm p e below T43 m 105 #[iv p0, iv p1, iv p2, iv p3, iv k, iv b2, rv r12, .unset, .unset, .unset, .unset, .unset, .unset, .unset, .unset, .unset, .unset, .unset, .unset, .unset] [(.long (k.toInt64))] _
          refine own_go (fun t₀ k₀ => XS.lconst X43.here hx rfl (Jvm.hb hby at_105) k₀) ?_
          show Gm p e below T43 m 106 #[iv p0, iv p1, iv p2, iv p3, iv k, iv b2, rv r12, .unset, .unset, .unset, .unset, .unset, .unset, .unset, .unset, .unset, .unset, .unset, .unset, .unset] [(.long (0 : Int64)), (.long (k.toInt64))] _
          refine own_go (fun t₀ k₀ => XS.ladd X43.here hx rfl (Jvm.hb hby at_106) rfl k₀) ?_
          show Gm p e below T43 m 107 #[iv p0, iv p1, iv p2, iv p3, iv k, iv b2, rv r12, .unset, .unset, .unset, .unset, .unset, .unset, .unset, .unset, .unset, .unset, .unset, .unset, .unset] [(.long ((k.toInt64) + (0 : Int64)))] _
          refine own_go (fun t₀ k₀ => XS.lstore X43.here hx rfl (Jvm.hb hby at_107) rfl (l' := #[iv p0, iv p1, iv p2, iv p3, iv k, iv b2, rv r12, lv ((k.toInt64) + (0 : Int64)), .second, .unset, .unset, .unset, .unset, .unset, .unset, .unset, .unset, .unset, .unset, .unset]) rfl k₀) ?_
          show Gm p e below T43 m 109 #[iv p0, iv p1, iv p2, iv p3, iv k, iv b2, rv r12, lv ((k.toInt64) + (0 : Int64)), .second, .unset, .unset, .unset, .unset, .unset, .unset, .unset, .unset, .unset, .unset, .unset] [] _
          refine own_go (fun t₀ k₀ => XS.iloadN X43.here hx rfl (Jvm.hb hby at_109) rfl k₀) ?_
          show Gm p e below T43 m 110 #[iv p0, iv p1, iv p2, iv p3, iv k, iv b2, rv r12, lv ((k.toInt64) + (0 : Int64)), .second, .unset, .unset, .unset, .unset, .unset, .unset, .unset, .unset, .unset, .unset, .unset] [(.int p1)] _
          refine own_go (fun t₀ k₀ => XS.i2l X43.here hx rfl (Jvm.hb hby at_110) rfl k₀) ?_
          show Gm p e below T43 m 111 #[iv p0, iv p1, iv p2, iv p3, iv k, iv b2, rv r12, lv ((k.toInt64) + (0 : Int64)), .second, .unset, .unset, .unset, .unset, .unset, .unset, .unset, .unset, .unset, .unset, .unset] [(.long (p1.toInt64))] _
          refine own_go (fun t₀ k₀ => X43.ldc2J hx hown (mvT hZ (hw _ (List.mem_of_getElem? (i := 15) rfl))) rfl (Jvm.hb hby at_111) k₀) ?_
          show Gm p e below T43 m 114 #[iv p0, iv p1, iv p2, iv p3, iv k, iv b2, rv r12, lv ((k.toInt64) + (0 : Int64)), .second, .unset, .unset, .unset, .unset, .unset, .unset, .unset, .unset, .unset, .unset, .unset] [(.long (2147483647 : Int64)), (.long (p1.toInt64))] _
          refine own_go (fun t₀ k₀ => XS.land X43.here hx rfl (Jvm.hb hby at_114) rfl k₀) ?_
          show Gm p e below T43 m 115 #[iv p0, iv p1, iv p2, iv p3, iv k, iv b2, rv r12, lv ((k.toInt64) + (0 : Int64)), .second, .unset, .unset, .unset, .unset, .unset, .unset, .unset, .unset, .unset, .unset, .unset] [(.long ((p1.toInt64) &&& (2147483647 : Int64)))] _
          refine own_go (fun t₀ k₀ => XS.lstore X43.here hx rfl (Jvm.hb hby at_115) rfl (l' := #[iv p0, iv p1, iv p2, iv p3, iv k, iv b2, rv r12, lv ((k.toInt64) + (0 : Int64)), .second, lv ((p1.toInt64) &&& (2147483647 : Int64)), .second, .unset, .unset, .unset, .unset, .unset, .unset, .unset, .unset, .unset]) rfl k₀) ?_
          show Gm p e below T43 m 117 #[iv p0, iv p1, iv p2, iv p3, iv k, iv b2, rv r12, lv ((k.toInt64) + (0 : Int64)), .second, lv ((p1.toInt64) &&& (2147483647 : Int64)), .second, .unset, .unset, .unset, .unset, .unset, .unset, .unset, .unset, .unset] [] _
          refine own_go (fun t₀ k₀ => XS.iloadN X43.here hx rfl (Jvm.hb hby at_117) rfl k₀) ?_
          show Gm p e below T43 m 118 #[iv p0, iv p1, iv p2, iv p3, iv k, iv b2, rv r12, lv ((k.toInt64) + (0 : Int64)), .second, lv ((p1.toInt64) &&& (2147483647 : Int64)), .second, .unset, .unset, .unset, .unset, .unset, .unset, .unset, .unset, .unset] [(.int p2)] _
          refine own_go (fun t₀ k₀ => XS.i2l X43.here hx rfl (Jvm.hb hby at_118) rfl k₀) ?_
          show Gm p e below T43 m 119 #[iv p0, iv p1, iv p2, iv p3, iv k, iv b2, rv r12, lv ((k.toInt64) + (0 : Int64)), .second, lv ((p1.toInt64) &&& (2147483647 : Int64)), .second, .unset, .unset, .unset, .unset, .unset, .unset, .unset, .unset, .unset] [(.long (p2.toInt64))] _
          refine own_go (fun t₀ k₀ => X43.ldc2J hx hown (mvT hZ (hw _ (List.mem_of_getElem? (i := 15) rfl))) rfl (Jvm.hb hby at_119) k₀) ?_
          show Gm p e below T43 m 122 #[iv p0, iv p1, iv p2, iv p3, iv k, iv b2, rv r12, lv ((k.toInt64) + (0 : Int64)), .second, lv ((p1.toInt64) &&& (2147483647 : Int64)), .second, .unset, .unset, .unset, .unset, .unset, .unset, .unset, .unset, .unset] [(.long (2147483647 : Int64)), (.long (p2.toInt64))] _
          refine own_go (fun t₀ k₀ => XS.land X43.here hx rfl (Jvm.hb hby at_122) rfl k₀) ?_
          show Gm p e below T43 m 123 #[iv p0, iv p1, iv p2, iv p3, iv k, iv b2, rv r12, lv ((k.toInt64) + (0 : Int64)), .second, lv ((p1.toInt64) &&& (2147483647 : Int64)), .second, .unset, .unset, .unset, .unset, .unset, .unset, .unset, .unset, .unset] [(.long ((p2.toInt64) &&& (2147483647 : Int64)))] _
          refine own_go (fun t₀ k₀ => XS.lstore X43.here hx rfl (Jvm.hb hby at_123) rfl (l' := #[iv p0, iv p1, iv p2, iv p3, iv k, iv b2, rv r12, lv ((k.toInt64) + (0 : Int64)), .second, lv ((p1.toInt64) &&& (2147483647 : Int64)), .second, lv ((p2.toInt64) &&& (2147483647 : Int64)), .second, .unset, .unset, .unset, .unset, .unset, .unset, .unset]) rfl k₀) ?_
          have hp := own_p p1.toInt64
          have hq := own_p p2.toInt64
          show Gm p e below T43 m 125 #[iv p0, iv p1, iv p2, iv p3, iv k, iv b2, rv r12, lv ((k.toInt64) + (0 : Int64)), .second, lv ((p1.toInt64) &&& (2147483647 : Int64)), .second, lv ((p2.toInt64) &&& (2147483647 : Int64)), .second, .unset, .unset, .unset, .unset, .unset, .unset, .unset] [] _
          refine own_go (fun t₀ k₀ => XS.lload X43.here hx rfl (Jvm.hb hby at_125) rfl k₀) ?_
          show Gm p e below T43 m 127 #[iv p0, iv p1, iv p2, iv p3, iv k, iv b2, rv r12, lv ((k.toInt64) + (0 : Int64)), .second, lv ((p1.toInt64) &&& (2147483647 : Int64)), .second, lv ((p2.toInt64) &&& (2147483647 : Int64)), .second, .unset, .unset, .unset, .unset, .unset, .unset, .unset] [(.long ((p1.toInt64) &&& (2147483647 : Int64)))] _
          refine own_go (fun t₀ k₀ => XS.lload X43.here hx rfl (Jvm.hb hby at_127) rfl k₀) ?_
          show Gm p e below T43 m 129 #[iv p0, iv p1, iv p2, iv p3, iv k, iv b2, rv r12, lv ((k.toInt64) + (0 : Int64)), .second, lv ((p1.toInt64) &&& (2147483647 : Int64)), .second, lv ((p2.toInt64) &&& (2147483647 : Int64)), .second, .unset, .unset, .unset, .unset, .unset, .unset, .unset] [(.long ((p2.toInt64) &&& (2147483647 : Int64))), (.long ((p1.toInt64) &&& (2147483647 : Int64)))] _
          obtain ⟨_, _, ⟨T46, L46, k46, n46⟩, -, X46, ⟨Lc46, hQ46, l46, y46, z46⟩, st46⟩ := Jvm.LawKit.callS X43 hx (y := (⟨"java/lang/Math", "min", "(JJ)J"⟩ : MethodName)) hown (mvT hZ (hw _ (List.mem_of_getElem? (i := 16) rfl))) (mvT hZ (hw _ (List.mem_of_getElem? (i := 17) rfl))) (mvT hZ (hw _ (List.mem_of_getElem? (i := 18) rfl))) (mvT hZ (hw _ (List.mem_of_getElem? (i := 19) rfl))) (by decide) (backOf (W := 0) (rm3 l Z a0 hw [] ((p1.toInt64) &&& (2147483647 : Int64)) ((p2.toInt64) &&& (2147483647 : Int64)) T43.heap n0 Z43) hZ (hw _ (List.mem_of_getElem? (i := 19) rfl)) (hw _ (List.mem_of_getElem? (i := 18) rfl)) (by decide) (by decide)) (g := (mkF m 129 #[iv p0, iv p1, iv p2, iv p3, iv k, iv b2, rv r12, lv ((k.toInt64) + (0 : Int64)), .second, lv ((p1.toInt64) &&& (2147483647 : Int64)), .second, lv ((p2.toInt64) &&& (2147483647 : Int64)), .second, .unset, .unset, .unset, .unset, .unset, .unset, .unset] [(.long ((p2.toInt64) &&& (2147483647 : Int64))), (.long ((p1.toInt64) &&& (2147483647 : Int64)))])) rfl (by rw [hml]; rfl) (argsL := [(.long ((p1.toInt64) &&& (2147483647 : Int64))), (.long ((p2.toInt64) &&& (2147483647 : Int64)))]) (rest := []) (lenOf own_pd4 rfl) rfl (by show 2 * 0 + _ ≤ _; exact Nat.le_of_eq rfl) (Jvm.hb hby at_129) (fun _ _ => ⟨rfl, rfl, (by decide : 4 + 0 ≤ _), (by decide : 24 + 0 ≤ _)⟩)
          dsimp only [Pt.U, Pt.locs, Pt.cells, Pt.slots] at X46 l46 y46 z46 st46 hQ46
          subst l46 y46 z46
          obtain ⟨rfl, Nq46, eq46⟩ := hQ46
          have N46 := Fr.app N43 Nq46
          have e46 : T46.heap = T43.heap := eq46
          refine own_go st46 ?_
          show Gm p e below T46 m 132 #[iv p0, iv p1, iv p2, iv p3, iv k, iv b2, rv r12, lv ((k.toInt64) + (0 : Int64)), .second, lv ((p1.toInt64) &&& (2147483647 : Int64)), .second, lv ((p2.toInt64) &&& (2147483647 : Int64)), .second, .unset, .unset, .unset, .unset, .unset, .unset, .unset] [(.long (fMin ((p1.toInt64) &&& (2147483647 : Int64)) ((p2.toInt64) &&& (2147483647 : Int64))))] _
          refine own_go (fun t₀ k₀ => XS.lstore X46.here hx rfl (Jvm.hb hby at_132) rfl (l' := #[iv p0, iv p1, iv p2, iv p3, iv k, iv b2, rv r12, lv ((k.toInt64) + (0 : Int64)), .second, lv ((p1.toInt64) &&& (2147483647 : Int64)), .second, lv ((p2.toInt64) &&& (2147483647 : Int64)), .second, lv (fMin ((p1.toInt64) &&& (2147483647 : Int64)) ((p2.toInt64) &&& (2147483647 : Int64))), .second, .unset, .unset, .unset, .unset, .unset]) rfl k₀) ?_
          show Gm p e below T46 m 134 #[iv p0, iv p1, iv p2, iv p3, iv k, iv b2, rv r12, lv ((k.toInt64) + (0 : Int64)), .second, lv ((p1.toInt64) &&& (2147483647 : Int64)), .second, lv ((p2.toInt64) &&& (2147483647 : Int64)), .second, lv (fMin ((p1.toInt64) &&& (2147483647 : Int64)) ((p2.toInt64) &&& (2147483647 : Int64))), .second, .unset, .unset, .unset, .unset, .unset] [] _
          refine own_go (fun t₀ k₀ => XS.iloadN X46.here hx rfl (Jvm.hb hby at_134) rfl k₀) ?_
          show Gm p e below T46 m 135 #[iv p0, iv p1, iv p2, iv p3, iv k, iv b2, rv r12, lv ((k.toInt64) + (0 : Int64)), .second, lv ((p1.toInt64) &&& (2147483647 : Int64)), .second, lv ((p2.toInt64) &&& (2147483647 : Int64)), .second, lv (fMin ((p1.toInt64) &&& (2147483647 : Int64)) ((p2.toInt64) &&& (2147483647 : Int64))), .second, .unset, .unset, .unset, .unset, .unset] [(.int p3)] _
          refine own_go (fun t₀ k₀ => XS.iconst X46.here hx rfl (Jvm.hb hby at_135) k₀) ?_
          show Gm p e below T46 m 136 #[iv p0, iv p1, iv p2, iv p3, iv k, iv b2, rv r12, lv ((k.toInt64) + (0 : Int64)), .second, lv ((p1.toInt64) &&& (2147483647 : Int64)), .second, lv ((p2.toInt64) &&& (2147483647 : Int64)), .second, lv (fMin ((p1.toInt64) &&& (2147483647 : Int64)) ((p2.toInt64) &&& (2147483647 : Int64))), .second, .unset, .unset, .unset, .unset, .unset] [(.int (1 : Int32)), (.int p3)] _
          refine own_go (fun t₀ k₀ => XS.iand X46.here hx rfl (Jvm.hb hby at_136) rfl k₀) ?_
          show Gm p e below T46 m 137 #[iv p0, iv p1, iv p2, iv p3, iv k, iv b2, rv r12, lv ((k.toInt64) + (0 : Int64)), .second, lv ((p1.toInt64) &&& (2147483647 : Int64)), .second, lv ((p2.toInt64) &&& (2147483647 : Int64)), .second, lv (fMin ((p1.toInt64) &&& (2147483647 : Int64)) ((p2.toInt64) &&& (2147483647 : Int64))), .second, .unset, .unset, .unset, .unset, .unset] [(.int (p3 &&& (1 : Int32)))] _
          obtain ⟨b47, hb47, k47⟩ : ∃ z : Int32, z = (if (p3 &&& (1 : Int32)) = (0 : Int32) then (0 : Int32) else (1 : Int32)) ∧ ∀ t, Steps p.tables e below (T46.setTop (mkF m 145 #[iv p0, iv p1, iv p2, iv p3, iv k, iv b2, rv r12, lv ((k.toInt64) + (0 : Int64)), .second, lv ((p1.toInt64) &&& (2147483647 : Int64)), .second, lv ((p2.toInt64) &&& (2147483647 : Int64)), .second, lv (fMin ((p1.toInt64) &&& (2147483647 : Int64)) ((p2.toInt64) &&& (2147483647 : Int64))), .second, .unset, .unset, .unset, .unset, .unset] [(.int z)])) t → Steps p.tables e below (T46.setTop (mkF m 137 #[iv p0, iv p1, iv p2, iv p3, iv k, iv b2, rv r12, lv ((k.toInt64) + (0 : Int64)), .second, lv ((p1.toInt64) &&& (2147483647 : Int64)), .second, lv ((p2.toInt64) &&& (2147483647 : Int64)), .second, lv (fMin ((p1.toInt64) &&& (2147483647 : Int64)) ((p2.toInt64) &&& (2147483647 : Int64))), .second, .unset, .unset, .unset, .unset, .unset] [(.int (p3 &&& (1 : Int32)))])) t := by
            by_cases hq : (p3 &&& (1 : Int32)) = (0 : Int32)
            · refine ⟨(0 : Int32), by rw [if_pos hq], fun t₀ k₀ => ?_⟩
              refine XS.ifYes X46.here hx rfl (pc0 := 137) (pc' := 144) rfl (Jvm.hb hby at_137) rfl (XT.i0_eq_t hq) (by decide) (by decide) ?_
              refine XS.iconst X46.here hx rfl (Jvm.hb hby at_144) ?_
              exact k₀
            · refine ⟨(1 : Int32), by rw [if_neg hq], fun t₀ k₀ => ?_⟩
              refine XS.ifNo X46.here hx rfl (Jvm.hb hby at_137) rfl (XT.i0_eq_f hq) ?_
              refine XS.iconst X46.here hx rfl (Jvm.hb hby at_140) ?_
              refine XS.goto X46.here hx rfl (pc0 := 141) (pc' := 145) rfl (Jvm.hb hby at_141) (by decide) (by decide) ?_
              exact k₀
          refine own_go k47 ?_
          show Gm p e below T46 m 145 #[iv p0, iv p1, iv p2, iv p3, iv k, iv b2, rv r12, lv ((k.toInt64) + (0 : Int64)), .second, lv ((p1.toInt64) &&& (2147483647 : Int64)), .second, lv ((p2.toInt64) &&& (2147483647 : Int64)), .second, lv (fMin ((p1.toInt64) &&& (2147483647 : Int64)) ((p2.toInt64) &&& (2147483647 : Int64))), .second, .unset, .unset, .unset, .unset, .unset] [(.int b47)] _
          refine own_go (fun t₀ k₀ => XS.istore X46.here hx rfl (Jvm.hb hby at_145) rfl (l' := #[iv p0, iv p1, iv p2, iv p3, iv k, iv b2, rv r12, lv ((k.toInt64) + (0 : Int64)), .second, lv ((p1.toInt64) &&& (2147483647 : Int64)), .second, lv ((p2.toInt64) &&& (2147483647 : Int64)), .second, lv (fMin ((p1.toInt64) &&& (2147483647 : Int64)) ((p2.toInt64) &&& (2147483647 : Int64))), .second, iv b47, .unset, .unset, .unset, .unset]) rfl k₀) ?_
          show Gm p e below T46 m 147 #[iv p0, iv p1, iv p2, iv p3, iv k, iv b2, rv r12, lv ((k.toInt64) + (0 : Int64)), .second, lv ((p1.toInt64) &&& (2147483647 : Int64)), .second, lv ((p2.toInt64) &&& (2147483647 : Int64)), .second, lv (fMin ((p1.toInt64) &&& (2147483647 : Int64)) ((p2.toInt64) &&& (2147483647 : Int64))), .second, iv b47, .unset, .unset, .unset, .unset] [] _
          refine own_go (fun t₀ k₀ => XS.iload X46.here hx rfl (Jvm.hb hby at_147) rfl k₀) ?_
          show Gm p e below T46 m 149 #[iv p0, iv p1, iv p2, iv p3, iv k, iv b2, rv r12, lv ((k.toInt64) + (0 : Int64)), .second, lv ((p1.toInt64) &&& (2147483647 : Int64)), .second, lv ((p2.toInt64) &&& (2147483647 : Int64)), .second, lv (fMin ((p1.toInt64) &&& (2147483647 : Int64)) ((p2.toInt64) &&& (2147483647 : Int64))), .second, iv b47, .unset, .unset, .unset, .unset] [(.int b47)] _
          by_cases c48 : b47 = (0 : Int32)
          · have hfork := trivial
            refine own_go (fun t₀ k₀ => XS.ifYes X46.here hx rfl (pc0 := 149) (pc' := 158) rfl (Jvm.hb hby at_149) rfl (XT.i0_eq_t c48) (by decide) (by decide) k₀) ?_
            show Gm p e below T46 m 158 #[iv p0, iv p1, iv p2, iv p3, iv k, iv b2, rv r12, lv ((k.toInt64) + (0 : Int64)), .second, lv ((p1.toInt64) &&& (2147483647 : Int64)), .second, lv ((p2.toInt64) &&& (2147483647 : Int64)), .second, lv (fMin ((p1.toInt64) &&& (2147483647 : Int64)) ((p2.toInt64) &&& (2147483647 : Int64))), .second, iv b47, .unset, .unset, .unset, .unset] [] _
            refine own_go (fun t₀ k₀ => XS.lload X46.here hx rfl (Jvm.hb hby at_158) rfl k₀) ?_
            show Gm p e below T46 m 160 #[iv p0, iv p1, iv p2, iv p3, iv k, iv b2, rv r12, lv ((k.toInt64) + (0 : Int64)), .second, lv ((p1.toInt64) &&& (2147483647 : Int64)), .second, lv ((p2.toInt64) &&& (2147483647 : Int64)), .second, lv (fMin ((p1.toInt64) &&& (2147483647 : Int64)) ((p2.toInt64) &&& (2147483647 : Int64))), .second, iv b47, .unset, .unset, .unset, .unset] [(.long ((p1.toInt64) &&& (2147483647 : Int64)))] _
            refine own_go (fun t₀ k₀ => XS.lload X46.here hx rfl (Jvm.hb hby at_160) rfl k₀) ?_
            show Gm p e below T46 m 162 #[iv p0, iv p1, iv p2, iv p3, iv k, iv b2, rv r12, lv ((k.toInt64) + (0 : Int64)), .second, lv ((p1.toInt64) &&& (2147483647 : Int64)), .second, lv ((p2.toInt64) &&& (2147483647 : Int64)), .second, lv (fMin ((p1.toInt64) &&& (2147483647 : Int64)) ((p2.toInt64) &&& (2147483647 : Int64))), .second, iv b47, .unset, .unset, .unset, .unset] [(.long ((p2.toInt64) &&& (2147483647 : Int64))), (.long ((p1.toInt64) &&& (2147483647 : Int64)))] _
            obtain ⟨_, _, ⟨T49, L49, k49, n49⟩, -, X49, ⟨Lc49, hQ49, l49, y49, z49⟩, st49⟩ := Jvm.LawKit.callS X46 hx (y := (⟨"java/lang/Math", "max", "(JJ)J"⟩ : MethodName)) hown (mvT hZ (hw _ (List.mem_of_getElem? (i := 30) rfl))) (mvT hZ (hw _ (List.mem_of_getElem? (i := 31) rfl))) (mvT hZ (hw _ (List.mem_of_getElem? (i := 18) rfl))) (mvT hZ (hw _ (List.mem_of_getElem? (i := 32) rfl))) (by decide) (backOf (W := 0) (rm5 l Z a0 hw [] ((p1.toInt64) &&& (2147483647 : Int64)) ((p2.toInt64) &&& (2147483647 : Int64)) T43.heap n0 Z43) hZ (hw _ (List.mem_of_getElem? (i := 32) rfl)) (hw _ (List.mem_of_getElem? (i := 18) rfl)) (by decide) (by decide)) (g := (mkF m 162 #[iv p0, iv p1, iv p2, iv p3, iv k, iv b2, rv r12, lv ((k.toInt64) + (0 : Int64)), .second, lv ((p1.toInt64) &&& (2147483647 : Int64)), .second, lv ((p2.toInt64) &&& (2147483647 : Int64)), .second, lv (fMin ((p1.toInt64) &&& (2147483647 : Int64)) ((p2.toInt64) &&& (2147483647 : Int64))), .second, iv b47, .unset, .unset, .unset, .unset] [(.long ((p2.toInt64) &&& (2147483647 : Int64))), (.long ((p1.toInt64) &&& (2147483647 : Int64)))])) rfl (by rw [hml]; rfl) (argsL := [(.long ((p1.toInt64) &&& (2147483647 : Int64))), (.long ((p2.toInt64) &&& (2147483647 : Int64)))]) (rest := []) (lenOf own_pd4 rfl) rfl (by show 2 * 0 + _ ≤ _; exact Nat.le_of_eq rfl) (Jvm.hb hby at_162) (fun _ _ => ⟨rfl, e46, (by decide : 4 + 0 ≤ _), (by decide : 24 + 0 ≤ _)⟩)
            dsimp only [Pt.U, Pt.locs, Pt.cells, Pt.slots] at X49 l49 y49 z49 st49 hQ49
            subst l49 y49 z49
            obtain ⟨rfl, Nq49, eq49⟩ := hQ49
            have N49 := Fr.app N46 Nq49
            have e49 : T49.heap = T43.heap := eq49
            refine own_go st49 ?_
            show Gm p e below T49 m 165 #[iv p0, iv p1, iv p2, iv p3, iv k, iv b2, rv r12, lv ((k.toInt64) + (0 : Int64)), .second, lv ((p1.toInt64) &&& (2147483647 : Int64)), .second, lv ((p2.toInt64) &&& (2147483647 : Int64)), .second, lv (fMin ((p1.toInt64) &&& (2147483647 : Int64)) ((p2.toInt64) &&& (2147483647 : Int64))), .second, iv b47, .unset, .unset, .unset, .unset] [(.long (fMax ((p1.toInt64) &&& (2147483647 : Int64)) ((p2.toInt64) &&& (2147483647 : Int64))))] _
            refine own_go (fun t₀ k₀ => XS.lstore X49.here hx rfl (Jvm.hb hby at_165) rfl (l' := #[iv p0, iv p1, iv p2, iv p3, iv k, iv b2, rv r12, lv ((k.toInt64) + (0 : Int64)), .second, lv ((p1.toInt64) &&& (2147483647 : Int64)), .second, lv ((p2.toInt64) &&& (2147483647 : Int64)), .second, lv (fMin ((p1.toInt64) &&& (2147483647 : Int64)) ((p2.toInt64) &&& (2147483647 : Int64))), .second, iv b47, lv (fMax ((p1.toInt64) &&& (2147483647 : Int64)) ((p2.toInt64) &&& (2147483647 : Int64))), .second, .unset, .unset]) rfl k₀) ?_
            show Gm p e below T49 m 167 #[iv p0, iv p1, iv p2, iv p3, iv k, iv b2, rv r12, lv ((k.toInt64) + (0 : Int64)), .second, lv ((p1.toInt64) &&& (2147483647 : Int64)), .second, lv ((p2.toInt64) &&& (2147483647 : Int64)), .second, lv (fMin ((p1.toInt64) &&& (2147483647 : Int64)) ((p2.toInt64) &&& (2147483647 : Int64))), .second, iv b47, lv (fMax ((p1.toInt64) &&& (2147483647 : Int64)) ((p2.toInt64) &&& (2147483647 : Int64))), .second, .unset, .unset] [] _
            refine own_go (fun t₀ k₀ => XS.iload X49.here hx rfl (Jvm.hb hby at_167) rfl k₀) ?_
            show Gm p e below T49 m 169 #[iv p0, iv p1, iv p2, iv p3, iv k, iv b2, rv r12, lv ((k.toInt64) + (0 : Int64)), .second, lv ((p1.toInt64) &&& (2147483647 : Int64)), .second, lv ((p2.toInt64) &&& (2147483647 : Int64)), .second, lv (fMin ((p1.toInt64) &&& (2147483647 : Int64)) ((p2.toInt64) &&& (2147483647 : Int64))), .second, iv b47, lv (fMax ((p1.toInt64) &&& (2147483647 : Int64)) ((p2.toInt64) &&& (2147483647 : Int64))), .second, .unset, .unset] [(.int b47)] _
            refine own_go (fun t₀ k₀ => XS.ifYes X49.here hx rfl (pc0 := 169) (pc' := 186) rfl (Jvm.hb hby at_169) rfl (XT.i0_eq_t c48) (by decide) (by decide) k₀) ?_
            show Gm p e below T49 m 186 #[iv p0, iv p1, iv p2, iv p3, iv k, iv b2, rv r12, lv ((k.toInt64) + (0 : Int64)), .second, lv ((p1.toInt64) &&& (2147483647 : Int64)), .second, lv ((p2.toInt64) &&& (2147483647 : Int64)), .second, lv (fMin ((p1.toInt64) &&& (2147483647 : Int64)) ((p2.toInt64) &&& (2147483647 : Int64))), .second, iv b47, lv (fMax ((p1.toInt64) &&& (2147483647 : Int64)) ((p2.toInt64) &&& (2147483647 : Int64))), .second, .unset, .unset] [] _
            refine own_go (fun t₀ k₀ => XS.lload X49.here hx rfl (Jvm.hb hby at_186) rfl k₀) ?_
            show Gm p e below T49 m 188 #[iv p0, iv p1, iv p2, iv p3, iv k, iv b2, rv r12, lv ((k.toInt64) + (0 : Int64)), .second, lv ((p1.toInt64) &&& (2147483647 : Int64)), .second, lv ((p2.toInt64) &&& (2147483647 : Int64)), .second, lv (fMin ((p1.toInt64) &&& (2147483647 : Int64)) ((p2.toInt64) &&& (2147483647 : Int64))), .second, iv b47, lv (fMax ((p1.toInt64) &&& (2147483647 : Int64)) ((p2.toInt64) &&& (2147483647 : Int64))), .second, .unset, .unset] [(.long (fMax ((p1.toInt64) &&& (2147483647 : Int64)) ((p2.toInt64) &&& (2147483647 : Int64))))] _
            refine own_go (fun t₀ k₀ => XS.lload X49.here hx rfl (Jvm.hb hby at_188) rfl k₀) ?_
            show Gm p e below T49 m 190 #[iv p0, iv p1, iv p2, iv p3, iv k, iv b2, rv r12, lv ((k.toInt64) + (0 : Int64)), .second, lv ((p1.toInt64) &&& (2147483647 : Int64)), .second, lv ((p2.toInt64) &&& (2147483647 : Int64)), .second, lv (fMin ((p1.toInt64) &&& (2147483647 : Int64)) ((p2.toInt64) &&& (2147483647 : Int64))), .second, iv b47, lv (fMax ((p1.toInt64) &&& (2147483647 : Int64)) ((p2.toInt64) &&& (2147483647 : Int64))), .second, .unset, .unset] [(.long ((k.toInt64) + (0 : Int64))), (.long (fMax ((p1.toInt64) &&& (2147483647 : Int64)) ((p2.toInt64) &&& (2147483647 : Int64))))] _
            refine own_go (fun t₀ k₀ => XS.lconst X49.here hx rfl (Jvm.hb hby at_190) k₀) ?_
            show Gm p e below T49 m 191 #[iv p0, iv p1, iv p2, iv p3, iv k, iv b2, rv r12, lv ((k.toInt64) + (0 : Int64)), .second, lv ((p1.toInt64) &&& (2147483647 : Int64)), .second, lv ((p2.toInt64) &&& (2147483647 : Int64)), .second, lv (fMin ((p1.toInt64) &&& (2147483647 : Int64)) ((p2.toInt64) &&& (2147483647 : Int64))), .second, iv b47, lv (fMax ((p1.toInt64) &&& (2147483647 : Int64)) ((p2.toInt64) &&& (2147483647 : Int64))), .second, .unset, .unset] [(.long (1 : Int64)), (.long ((k.toInt64) + (0 : Int64))), (.long (fMax ((p1.toInt64) &&& (2147483647 : Int64)) ((p2.toInt64) &&& (2147483647 : Int64))))] _
            refine own_go (fun t₀ k₀ => XS.ladd X49.here hx rfl (Jvm.hb hby at_191) rfl k₀) ?_
            show Gm p e below T49 m 192 #[iv p0, iv p1, iv p2, iv p3, iv k, iv b2, rv r12, lv ((k.toInt64) + (0 : Int64)), .second, lv ((p1.toInt64) &&& (2147483647 : Int64)), .second, lv ((p2.toInt64) &&& (2147483647 : Int64)), .second, lv (fMin ((p1.toInt64) &&& (2147483647 : Int64)) ((p2.toInt64) &&& (2147483647 : Int64))), .second, iv b47, lv (fMax ((p1.toInt64) &&& (2147483647 : Int64)) ((p2.toInt64) &&& (2147483647 : Int64))), .second, .unset, .unset] [(.long (((k.toInt64) + (0 : Int64)) + (1 : Int64))), (.long (fMax ((p1.toInt64) &&& (2147483647 : Int64)) ((p2.toInt64) &&& (2147483647 : Int64))))] _
            refine own_go (fun t₀ k₀ => XS.lmul X49.here hx rfl (Jvm.hb hby at_192) rfl k₀) ?_
            show Gm p e below T49 m 193 #[iv p0, iv p1, iv p2, iv p3, iv k, iv b2, rv r12, lv ((k.toInt64) + (0 : Int64)), .second, lv ((p1.toInt64) &&& (2147483647 : Int64)), .second, lv ((p2.toInt64) &&& (2147483647 : Int64)), .second, lv (fMin ((p1.toInt64) &&& (2147483647 : Int64)) ((p2.toInt64) &&& (2147483647 : Int64))), .second, iv b47, lv (fMax ((p1.toInt64) &&& (2147483647 : Int64)) ((p2.toInt64) &&& (2147483647 : Int64))), .second, .unset, .unset] [(.long ((fMax ((p1.toInt64) &&& (2147483647 : Int64)) ((p2.toInt64) &&& (2147483647 : Int64))) * (((k.toInt64) + (0 : Int64)) + (1 : Int64))))] _
            refine own_go (fun t₀ k₀ => XS.lload X49.here hx rfl (Jvm.hb hby at_193) rfl k₀) ?_
            show Gm p e below T49 m 195 #[iv p0, iv p1, iv p2, iv p3, iv k, iv b2, rv r12, lv ((k.toInt64) + (0 : Int64)), .second, lv ((p1.toInt64) &&& (2147483647 : Int64)), .second, lv ((p2.toInt64) &&& (2147483647 : Int64)), .second, lv (fMin ((p1.toInt64) &&& (2147483647 : Int64)) ((p2.toInt64) &&& (2147483647 : Int64))), .second, iv b47, lv (fMax ((p1.toInt64) &&& (2147483647 : Int64)) ((p2.toInt64) &&& (2147483647 : Int64))), .second, .unset, .unset] [(.long (fMin ((p1.toInt64) &&& (2147483647 : Int64)) ((p2.toInt64) &&& (2147483647 : Int64)))), (.long ((fMax ((p1.toInt64) &&& (2147483647 : Int64)) ((p2.toInt64) &&& (2147483647 : Int64))) * (((k.toInt64) + (0 : Int64)) + (1 : Int64))))] _
            refine own_go (fun t₀ k₀ => XS.lsub X49.here hx rfl (Jvm.hb hby at_195) rfl k₀) ?_
            show Gm p e below T49 m 196 #[iv p0, iv p1, iv p2, iv p3, iv k, iv b2, rv r12, lv ((k.toInt64) + (0 : Int64)), .second, lv ((p1.toInt64) &&& (2147483647 : Int64)), .second, lv ((p2.toInt64) &&& (2147483647 : Int64)), .second, lv (fMin ((p1.toInt64) &&& (2147483647 : Int64)) ((p2.toInt64) &&& (2147483647 : Int64))), .second, iv b47, lv (fMax ((p1.toInt64) &&& (2147483647 : Int64)) ((p2.toInt64) &&& (2147483647 : Int64))), .second, .unset, .unset] [(.long (((fMax ((p1.toInt64) &&& (2147483647 : Int64)) ((p2.toInt64) &&& (2147483647 : Int64))) * (((k.toInt64) + (0 : Int64)) + (1 : Int64))) - (fMin ((p1.toInt64) &&& (2147483647 : Int64)) ((p2.toInt64) &&& (2147483647 : Int64)))))] _
            refine own_go (fun t₀ k₀ => XS.lstore X49.here hx rfl (Jvm.hb hby at_196) rfl (l' := #[iv p0, iv p1, iv p2, iv p3, iv k, iv b2, rv r12, lv ((k.toInt64) + (0 : Int64)), .second, lv ((p1.toInt64) &&& (2147483647 : Int64)), .second, lv ((p2.toInt64) &&& (2147483647 : Int64)), .second, lv (fMin ((p1.toInt64) &&& (2147483647 : Int64)) ((p2.toInt64) &&& (2147483647 : Int64))), .second, iv b47, lv (fMax ((p1.toInt64) &&& (2147483647 : Int64)) ((p2.toInt64) &&& (2147483647 : Int64))), .second, lv (((fMax ((p1.toInt64) &&& (2147483647 : Int64)) ((p2.toInt64) &&& (2147483647 : Int64))) * (((k.toInt64) + (0 : Int64)) + (1 : Int64))) - (fMin ((p1.toInt64) &&& (2147483647 : Int64)) ((p2.toInt64) &&& (2147483647 : Int64)))), .second]) rfl k₀) ?_
            show Gm p e below T49 m 198 #[iv p0, iv p1, iv p2, iv p3, iv k, iv b2, rv r12, lv ((k.toInt64) + (0 : Int64)), .second, lv ((p1.toInt64) &&& (2147483647 : Int64)), .second, lv ((p2.toInt64) &&& (2147483647 : Int64)), .second, lv (fMin ((p1.toInt64) &&& (2147483647 : Int64)) ((p2.toInt64) &&& (2147483647 : Int64))), .second, iv b47, lv (fMax ((p1.toInt64) &&& (2147483647 : Int64)) ((p2.toInt64) &&& (2147483647 : Int64))), .second, lv (((fMax ((p1.toInt64) &&& (2147483647 : Int64)) ((p2.toInt64) &&& (2147483647 : Int64))) * (((k.toInt64) + (0 : Int64)) + (1 : Int64))) - (fMin ((p1.toInt64) &&& (2147483647 : Int64)) ((p2.toInt64) &&& (2147483647 : Int64)))), .second] [] _
            refine own_go (fun t₀ k₀ => XS.aload X49.here hx rfl (Jvm.hb hby at_198) rfl rfl k₀) ?_
            show Gm p e below T49 m 200 #[iv p0, iv p1, iv p2, iv p3, iv k, iv b2, rv r12, lv ((k.toInt64) + (0 : Int64)), .second, lv ((p1.toInt64) &&& (2147483647 : Int64)), .second, lv ((p2.toInt64) &&& (2147483647 : Int64)), .second, lv (fMin ((p1.toInt64) &&& (2147483647 : Int64)) ((p2.toInt64) &&& (2147483647 : Int64))), .second, iv b47, lv (fMax ((p1.toInt64) &&& (2147483647 : Int64)) ((p2.toInt64) &&& (2147483647 : Int64))), .second, lv (((fMax ((p1.toInt64) &&& (2147483647 : Int64)) ((p2.toInt64) &&& (2147483647 : Int64))) * (((k.toInt64) + (0 : Int64)) + (1 : Int64))) - (fMin ((p1.toInt64) &&& (2147483647 : Int64)) ((p2.toInt64) &&& (2147483647 : Int64)))), .second] [(.ref r12)] _
            refine own_go (fun t₀ k₀ => XS.lload X49.here hx rfl (Jvm.hb hby at_200) rfl k₀) ?_
            show Gm p e below T49 m 202 #[iv p0, iv p1, iv p2, iv p3, iv k, iv b2, rv r12, lv ((k.toInt64) + (0 : Int64)), .second, lv ((p1.toInt64) &&& (2147483647 : Int64)), .second, lv ((p2.toInt64) &&& (2147483647 : Int64)), .second, lv (fMin ((p1.toInt64) &&& (2147483647 : Int64)) ((p2.toInt64) &&& (2147483647 : Int64))), .second, iv b47, lv (fMax ((p1.toInt64) &&& (2147483647 : Int64)) ((p2.toInt64) &&& (2147483647 : Int64))), .second, lv (((fMax ((p1.toInt64) &&& (2147483647 : Int64)) ((p2.toInt64) &&& (2147483647 : Int64))) * (((k.toInt64) + (0 : Int64)) + (1 : Int64))) - (fMin ((p1.toInt64) &&& (2147483647 : Int64)) ((p2.toInt64) &&& (2147483647 : Int64)))), .second] [(.long (fMin ((p1.toInt64) &&& (2147483647 : Int64)) ((p2.toInt64) &&& (2147483647 : Int64)))), (.ref r12)] _
            refine own_go (fun t₀ k₀ => XS.lload X49.here hx rfl (Jvm.hb hby at_202) rfl k₀) ?_
            show Gm p e below T49 m 204 #[iv p0, iv p1, iv p2, iv p3, iv k, iv b2, rv r12, lv ((k.toInt64) + (0 : Int64)), .second, lv ((p1.toInt64) &&& (2147483647 : Int64)), .second, lv ((p2.toInt64) &&& (2147483647 : Int64)), .second, lv (fMin ((p1.toInt64) &&& (2147483647 : Int64)) ((p2.toInt64) &&& (2147483647 : Int64))), .second, iv b47, lv (fMax ((p1.toInt64) &&& (2147483647 : Int64)) ((p2.toInt64) &&& (2147483647 : Int64))), .second, lv (((fMax ((p1.toInt64) &&& (2147483647 : Int64)) ((p2.toInt64) &&& (2147483647 : Int64))) * (((k.toInt64) + (0 : Int64)) + (1 : Int64))) - (fMin ((p1.toInt64) &&& (2147483647 : Int64)) ((p2.toInt64) &&& (2147483647 : Int64)))), .second] [(.long (fMax ((p1.toInt64) &&& (2147483647 : Int64)) ((p2.toInt64) &&& (2147483647 : Int64)))), (.long (fMin ((p1.toInt64) &&& (2147483647 : Int64)) ((p2.toInt64) &&& (2147483647 : Int64)))), (.ref r12)] _
            obtain ⟨cq50, kq50, q50a, q50b, q50c⟩ := isOf hZ e49 Ec43
            obtain ⟨_, _, ⟨T50, L50, k50, n50⟩, -, X50, ⟨Lc50, hQ50, l50, y50, z50⟩, st50⟩ := X49.virtualBack hx (y := (⟨"com/example/data_in_bounds/datainbounds/metapath/RegexProgram$Fragment", "repeatedLength", "(JJ)J"⟩ : MethodName)) (z := (⟨"com/example/data_in_bounds/datainbounds/metapath/RegexProgram$Fragment", "repeatedLength", "(JJ)J"⟩ : MethodName)) hown (mvT hZ (hw _ (List.mem_of_getElem? (i := 22) rfl))) (mvT hZ (hw _ (List.mem_of_getElem? (i := 23) rfl))) (notFace_of_selects (args := #[]) (mvT hZ (hw _ (List.mem_of_getElem? (i := 25) rfl)))) (mvT hZ (hw _ (List.mem_of_getElem? (i := 25) rfl))) (mvT hZ (hw _ (List.mem_of_getElem? (i := 24) rfl))) (by decide) (backOf (W := 0) (rm4 l Z a0 hw [] r12 (fMin ((p1.toInt64) &&& (2147483647 : Int64)) ((p2.toInt64) &&& (2147483647 : Int64))) (fMax ((p1.toInt64) &&& (2147483647 : Int64)) ((p2.toInt64) &&& (2147483647 : Int64))) (2 : Int32) (b2 &&& (1 : Int32)) T43.heap n0 Z43 Flen43 Fnul43) hZ (hw _ (List.mem_of_getElem? (i := 26) rfl)) (hw _ (List.mem_of_getElem? (i := 2) rfl)) (by decide) (by decide)) q50a q50c (g := (mkF m 204 #[iv p0, iv p1, iv p2, iv p3, iv k, iv b2, rv r12, lv ((k.toInt64) + (0 : Int64)), .second, lv ((p1.toInt64) &&& (2147483647 : Int64)), .second, lv ((p2.toInt64) &&& (2147483647 : Int64)), .second, lv (fMin ((p1.toInt64) &&& (2147483647 : Int64)) ((p2.toInt64) &&& (2147483647 : Int64))), .second, iv b47, lv (fMax ((p1.toInt64) &&& (2147483647 : Int64)) ((p2.toInt64) &&& (2147483647 : Int64))), .second, lv (((fMax ((p1.toInt64) &&& (2147483647 : Int64)) ((p2.toInt64) &&& (2147483647 : Int64))) * (((k.toInt64) + (0 : Int64)) + (1 : Int64))) - (fMin ((p1.toInt64) &&& (2147483647 : Int64)) ((p2.toInt64) &&& (2147483647 : Int64)))), .second] [(.long (fMax ((p1.toInt64) &&& (2147483647 : Int64)) ((p2.toInt64) &&& (2147483647 : Int64)))), (.long (fMin ((p1.toInt64) &&& (2147483647 : Int64)) ((p2.toInt64) &&& (2147483647 : Int64)))), (.ref r12)])) rfl (by rw [hml]; rfl) (Steps.refl _) (argsL := [(.long (fMin ((p1.toInt64) &&& (2147483647 : Int64)) ((p2.toInt64) &&& (2147483647 : Int64)))), (.long (fMax ((p1.toInt64) &&& (2147483647 : Int64)) ((p2.toInt64) &&& (2147483647 : Int64))))]) (rest := []) (lenOf own_pd4 rfl) rfl (by show 2 * 0 + _ ≤ _; exact Nat.le_of_eq rfl) (Jvm.hb hby at_204) (fun _ _ => ⟨rfl, e49, (by decide : 4 + 0 ≤ _), (by decide : 24 + 0 ≤ _)⟩)
            dsimp only [Pt.U, Pt.locs, Pt.cells, Pt.slots] at X50 l50 y50 z50 st50 hQ50
            subst l50 y50 z50
            obtain ⟨rfl, Nq50, eq50⟩ := hQ50
            have N50 := Fr.app N49 Nq50
            have e50 : T50.heap = T43.heap := eq50
            refine own_go (fun t k => st50.trans k) ?_
            show Gm p e below T50 m 207 #[iv p0, iv p1, iv p2, iv p3, iv k, iv b2, rv r12, lv ((k.toInt64) + (0 : Int64)), .second, lv ((p1.toInt64) &&& (2147483647 : Int64)), .second, lv ((p2.toInt64) &&& (2147483647 : Int64)), .second, lv (fMin ((p1.toInt64) &&& (2147483647 : Int64)) ((p2.toInt64) &&& (2147483647 : Int64))), .second, iv b47, lv (fMax ((p1.toInt64) &&& (2147483647 : Int64)) ((p2.toInt64) &&& (2147483647 : Int64))), .second, lv (((fMax ((p1.toInt64) &&& (2147483647 : Int64)) ((p2.toInt64) &&& (2147483647 : Int64))) * (((k.toInt64) + (0 : Int64)) + (1 : Int64))) - (fMin ((p1.toInt64) &&& (2147483647 : Int64)) ((p2.toInt64) &&& (2147483647 : Int64)))), .second] [(.long (fR (fMin ((p1.toInt64) &&& (2147483647 : Int64)) ((p2.toInt64) &&& (2147483647 : Int64))) (fMax ((p1.toInt64) &&& (2147483647 : Int64)) ((p2.toInt64) &&& (2147483647 : Int64))) (2 : Int32) (b2 &&& (1 : Int32))))] _
            refine own_go (fun t₀ k₀ => XS.lload X50.here hx rfl (Jvm.hb hby at_207) rfl k₀) ?_
            show Gm p e below T50 m 209 #[iv p0, iv p1, iv p2, iv p3, iv k, iv b2, rv r12, lv ((k.toInt64) + (0 : Int64)), .second, lv ((p1.toInt64) &&& (2147483647 : Int64)), .second, lv ((p2.toInt64) &&& (2147483647 : Int64)), .second, lv (fMin ((p1.toInt64) &&& (2147483647 : Int64)) ((p2.toInt64) &&& (2147483647 : Int64))), .second, iv b47, lv (fMax ((p1.toInt64) &&& (2147483647 : Int64)) ((p2.toInt64) &&& (2147483647 : Int64))), .second, lv (((fMax ((p1.toInt64) &&& (2147483647 : Int64)) ((p2.toInt64) &&& (2147483647 : Int64))) * (((k.toInt64) + (0 : Int64)) + (1 : Int64))) - (fMin ((p1.toInt64) &&& (2147483647 : Int64)) ((p2.toInt64) &&& (2147483647 : Int64)))), .second] [(.long (((fMax ((p1.toInt64) &&& (2147483647 : Int64)) ((p2.toInt64) &&& (2147483647 : Int64))) * (((k.toInt64) + (0 : Int64)) + (1 : Int64))) - (fMin ((p1.toInt64) &&& (2147483647 : Int64)) ((p2.toInt64) &&& (2147483647 : Int64))))), (.long (fR (fMin ((p1.toInt64) &&& (2147483647 : Int64)) ((p2.toInt64) &&& (2147483647 : Int64))) (fMax ((p1.toInt64) &&& (2147483647 : Int64)) ((p2.toInt64) &&& (2147483647 : Int64))) (2 : Int32) (b2 &&& (1 : Int32))))] _
            refine own_go (fun t₀ k₀ => XT.lcmp X50.here hx rfl (Jvm.hb hby at_209) rfl k₀) ?_
            show Gm p e below T50 m 210 #[iv p0, iv p1, iv p2, iv p3, iv k, iv b2, rv r12, lv ((k.toInt64) + (0 : Int64)), .second, lv ((p1.toInt64) &&& (2147483647 : Int64)), .second, lv ((p2.toInt64) &&& (2147483647 : Int64)), .second, lv (fMin ((p1.toInt64) &&& (2147483647 : Int64)) ((p2.toInt64) &&& (2147483647 : Int64))), .second, iv b47, lv (fMax ((p1.toInt64) &&& (2147483647 : Int64)) ((p2.toInt64) &&& (2147483647 : Int64))), .second, lv (((fMax ((p1.toInt64) &&& (2147483647 : Int64)) ((p2.toInt64) &&& (2147483647 : Int64))) * (((k.toInt64) + (0 : Int64)) + (1 : Int64))) - (fMin ((p1.toInt64) &&& (2147483647 : Int64)) ((p2.toInt64) &&& (2147483647 : Int64)))), .second] [(.int (XT.cmpL (fR (fMin ((p1.toInt64) &&& (2147483647 : Int64)) ((p2.toInt64) &&& (2147483647 : Int64))) (fMax ((p1.toInt64) &&& (2147483647 : Int64)) ((p2.toInt64) &&& (2147483647 : Int64))) (2 : Int32) (b2 &&& (1 : Int32))) (((fMax ((p1.toInt64) &&& (2147483647 : Int64)) ((p2.toInt64) &&& (2147483647 : Int64))) * (((k.toInt64) + (0 : Int64)) + (1 : Int64))) - (fMin ((p1.toInt64) &&& (2147483647 : Int64)) ((p2.toInt64) &&& (2147483647 : Int64))))))] _
            refine own_go (fun t₀ k₀ => XS.ifNo X50.here hx rfl (Jvm.hb hby at_210) rfl (XT.ll_ne_f (own_fin _ _ _ _ ((k.toInt64) + (0 : Int64)) _ (by rw [hk, if_pos (by rw [c45]; rfl)]; decide) (by rw [if_neg (own_max _ _ hp hq)]; try rfl))) k₀) ?_
            show Gm p e below T50 m 213 #[iv p0, iv p1, iv p2, iv p3, iv k, iv b2, rv r12, lv ((k.toInt64) + (0 : Int64)), .second, lv ((p1.toInt64) &&& (2147483647 : Int64)), .second, lv ((p2.toInt64) &&& (2147483647 : Int64)), .second, lv (fMin ((p1.toInt64) &&& (2147483647 : Int64)) ((p2.toInt64) &&& (2147483647 : Int64))), .second, iv b47, lv (fMax ((p1.toInt64) &&& (2147483647 : Int64)) ((p2.toInt64) &&& (2147483647 : Int64))), .second, lv (((fMax ((p1.toInt64) &&& (2147483647 : Int64)) ((p2.toInt64) &&& (2147483647 : Int64))) * (((k.toInt64) + (0 : Int64)) + (1 : Int64))) - (fMin ((p1.toInt64) &&& (2147483647 : Int64)) ((p2.toInt64) &&& (2147483647 : Int64)))), .second] [] _
            refine own_go (fun t₀ k₀ => XS.iconst X50.here hx rfl (Jvm.hb hby at_213) k₀) ?_
            show Gm p e below T50 m 214 #[iv p0, iv p1, iv p2, iv p3, iv k, iv b2, rv r12, lv ((k.toInt64) + (0 : Int64)), .second, lv ((p1.toInt64) &&& (2147483647 : Int64)), .second, lv ((p2.toInt64) &&& (2147483647 : Int64)), .second, lv (fMin ((p1.toInt64) &&& (2147483647 : Int64)) ((p2.toInt64) &&& (2147483647 : Int64))), .second, iv b47, lv (fMax ((p1.toInt64) &&& (2147483647 : Int64)) ((p2.toInt64) &&& (2147483647 : Int64))), .second, lv (((fMax ((p1.toInt64) &&& (2147483647 : Int64)) ((p2.toInt64) &&& (2147483647 : Int64))) * (((k.toInt64) + (0 : Int64)) + (1 : Int64))) - (fMin ((p1.toInt64) &&& (2147483647 : Int64)) ((p2.toInt64) &&& (2147483647 : Int64)))), .second] [(.int (1 : Int32))] _
            refine own_go (fun t₀ k₀ => XS.goto X50.here hx rfl (pc0 := 214) (pc' := 218) rfl (Jvm.hb hby at_214) (by decide) (by decide) k₀) ?_
            show Gm p e below T50 m 218 #[iv p0, iv p1, iv p2, iv p3, iv k, iv b2, rv r12, lv ((k.toInt64) + (0 : Int64)), .second, lv ((p1.toInt64) &&& (2147483647 : Int64)), .second, lv ((p2.toInt64) &&& (2147483647 : Int64)), .second, lv (fMin ((p1.toInt64) &&& (2147483647 : Int64)) ((p2.toInt64) &&& (2147483647 : Int64))), .second, iv b47, lv (fMax ((p1.toInt64) &&& (2147483647 : Int64)) ((p2.toInt64) &&& (2147483647 : Int64))), .second, lv (((fMax ((p1.toInt64) &&& (2147483647 : Int64)) ((p2.toInt64) &&& (2147483647 : Int64))) * (((k.toInt64) + (0 : Int64)) + (1 : Int64))) - (fMin ((p1.toInt64) &&& (2147483647 : Int64)) ((p2.toInt64) &&& (2147483647 : Int64)))), .second] [(.int (1 : Int32))] _
            exact own_retI X50 hx hlk (t := .boolean) Bd.returns rfl (by simp) (Jvm.hb hby at_218) e50 ⟨rfl, N50⟩ (by decide) (by decide)
          · have hfork := trivial
            refine own_go (fun t₀ k₀ => XS.ifNo X46.here hx rfl (Jvm.hb hby at_149) rfl (XT.i0_eq_f c48) k₀) ?_
            show Gm p e below T46 m 152 #[iv p0, iv p1, iv p2, iv p3, iv k, iv b2, rv r12, lv ((k.toInt64) + (0 : Int64)), .second, lv ((p1.toInt64) &&& (2147483647 : Int64)), .second, lv ((p2.toInt64) &&& (2147483647 : Int64)), .second, lv (fMin ((p1.toInt64) &&& (2147483647 : Int64)) ((p2.toInt64) &&& (2147483647 : Int64))), .second, iv b47, .unset, .unset, .unset, .unset] [] _
            refine own_go (fun t₀ k₀ => X46.ldc2J hx hown (mvT hZ (hw _ (List.mem_of_getElem? (i := 20) rfl))) rfl (Jvm.hb hby at_152) k₀) ?_
            show Gm p e below T46 m 155 #[iv p0, iv p1, iv p2, iv p3, iv k, iv b2, rv r12, lv ((k.toInt64) + (0 : Int64)), .second, lv ((p1.toInt64) &&& (2147483647 : Int64)), .second, lv ((p2.toInt64) &&& (2147483647 : Int64)), .second, lv (fMin ((p1.toInt64) &&& (2147483647 : Int64)) ((p2.toInt64) &&& (2147483647 : Int64))), .second, iv b47, .unset, .unset, .unset, .unset] [(.long (-1 : Int64))] _
            refine own_go (fun t₀ k₀ => XS.goto X46.here hx rfl (pc0 := 155) (pc' := 165) rfl (Jvm.hb hby at_155) (by decide) (by decide) k₀) ?_
            show Gm p e below T46 m 165 #[iv p0, iv p1, iv p2, iv p3, iv k, iv b2, rv r12, lv ((k.toInt64) + (0 : Int64)), .second, lv ((p1.toInt64) &&& (2147483647 : Int64)), .second, lv ((p2.toInt64) &&& (2147483647 : Int64)), .second, lv (fMin ((p1.toInt64) &&& (2147483647 : Int64)) ((p2.toInt64) &&& (2147483647 : Int64))), .second, iv b47, .unset, .unset, .unset, .unset] [(.long (-1 : Int64))] _
            refine own_go (fun t₀ k₀ => XS.lstore X46.here hx rfl (Jvm.hb hby at_165) rfl (l' := #[iv p0, iv p1, iv p2, iv p3, iv k, iv b2, rv r12, lv ((k.toInt64) + (0 : Int64)), .second, lv ((p1.toInt64) &&& (2147483647 : Int64)), .second, lv ((p2.toInt64) &&& (2147483647 : Int64)), .second, lv (fMin ((p1.toInt64) &&& (2147483647 : Int64)) ((p2.toInt64) &&& (2147483647 : Int64))), .second, iv b47, lv (-1 : Int64), .second, .unset, .unset]) rfl k₀) ?_
            show Gm p e below T46 m 167 #[iv p0, iv p1, iv p2, iv p3, iv k, iv b2, rv r12, lv ((k.toInt64) + (0 : Int64)), .second, lv ((p1.toInt64) &&& (2147483647 : Int64)), .second, lv ((p2.toInt64) &&& (2147483647 : Int64)), .second, lv (fMin ((p1.toInt64) &&& (2147483647 : Int64)) ((p2.toInt64) &&& (2147483647 : Int64))), .second, iv b47, lv (-1 : Int64), .second, .unset, .unset] [] _
            refine own_go (fun t₀ k₀ => XS.iload X46.here hx rfl (Jvm.hb hby at_167) rfl k₀) ?_
            show Gm p e below T46 m 169 #[iv p0, iv p1, iv p2, iv p3, iv k, iv b2, rv r12, lv ((k.toInt64) + (0 : Int64)), .second, lv ((p1.toInt64) &&& (2147483647 : Int64)), .second, lv ((p2.toInt64) &&& (2147483647 : Int64)), .second, lv (fMin ((p1.toInt64) &&& (2147483647 : Int64)) ((p2.toInt64) &&& (2147483647 : Int64))), .second, iv b47, lv (-1 : Int64), .second, .unset, .unset] [(.int b47)] _
            refine own_go (fun t₀ k₀ => XS.ifNo X46.here hx rfl (Jvm.hb hby at_169) rfl (XT.i0_eq_f c48) k₀) ?_
            show Gm p e below T46 m 172 #[iv p0, iv p1, iv p2, iv p3, iv k, iv b2, rv r12, lv ((k.toInt64) + (0 : Int64)), .second, lv ((p1.toInt64) &&& (2147483647 : Int64)), .second, lv ((p2.toInt64) &&& (2147483647 : Int64)), .second, lv (fMin ((p1.toInt64) &&& (2147483647 : Int64)) ((p2.toInt64) &&& (2147483647 : Int64))), .second, iv b47, lv (-1 : Int64), .second, .unset, .unset] [] _
            refine own_go (fun t₀ k₀ => XS.lload X46.here hx rfl (Jvm.hb hby at_172) rfl k₀) ?_
            show Gm p e below T46 m 174 #[iv p0, iv p1, iv p2, iv p3, iv k, iv b2, rv r12, lv ((k.toInt64) + (0 : Int64)), .second, lv ((p1.toInt64) &&& (2147483647 : Int64)), .second, lv ((p2.toInt64) &&& (2147483647 : Int64)), .second, lv (fMin ((p1.toInt64) &&& (2147483647 : Int64)) ((p2.toInt64) &&& (2147483647 : Int64))), .second, iv b47, lv (-1 : Int64), .second, .unset, .unset] [(.long (fMin ((p1.toInt64) &&& (2147483647 : Int64)) ((p2.toInt64) &&& (2147483647 : Int64))))] _
            refine own_go (fun t₀ k₀ => XS.lconst X46.here hx rfl (Jvm.hb hby at_174) k₀) ?_
            show Gm p e below T46 m 175 #[iv p0, iv p1, iv p2, iv p3, iv k, iv b2, rv r12, lv ((k.toInt64) + (0 : Int64)), .second, lv ((p1.toInt64) &&& (2147483647 : Int64)), .second, lv ((p2.toInt64) &&& (2147483647 : Int64)), .second, lv (fMin ((p1.toInt64) &&& (2147483647 : Int64)) ((p2.toInt64) &&& (2147483647 : Int64))), .second, iv b47, lv (-1 : Int64), .second, .unset, .unset] [(.long (1 : Int64)), (.long (fMin ((p1.toInt64) &&& (2147483647 : Int64)) ((p2.toInt64) &&& (2147483647 : Int64))))] _
            refine own_go (fun t₀ k₀ => XS.ladd X46.here hx rfl (Jvm.hb hby at_175) rfl k₀) ?_
            show Gm p e below T46 m 176 #[iv p0, iv p1, iv p2, iv p3, iv k, iv b2, rv r12, lv ((k.toInt64) + (0 : Int64)), .second, lv ((p1.toInt64) &&& (2147483647 : Int64)), .second, lv ((p2.toInt64) &&& (2147483647 : Int64)), .second, lv (fMin ((p1.toInt64) &&& (2147483647 : Int64)) ((p2.toInt64) &&& (2147483647 : Int64))), .second, iv b47, lv (-1 : Int64), .second, .unset, .unset] [(.long ((fMin ((p1.toInt64) &&& (2147483647 : Int64)) ((p2.toInt64) &&& (2147483647 : Int64))) + (1 : Int64)))] _
            refine own_go (fun t₀ k₀ => XS.lload X46.here hx rfl (Jvm.hb hby at_176) rfl k₀) ?_
            show Gm p e below T46 m 178 #[iv p0, iv p1, iv p2, iv p3, iv k, iv b2, rv r12, lv ((k.toInt64) + (0 : Int64)), .second, lv ((p1.toInt64) &&& (2147483647 : Int64)), .second, lv ((p2.toInt64) &&& (2147483647 : Int64)), .second, lv (fMin ((p1.toInt64) &&& (2147483647 : Int64)) ((p2.toInt64) &&& (2147483647 : Int64))), .second, iv b47, lv (-1 : Int64), .second, .unset, .unset] [(.long ((k.toInt64) + (0 : Int64))), (.long ((fMin ((p1.toInt64) &&& (2147483647 : Int64)) ((p2.toInt64) &&& (2147483647 : Int64))) + (1 : Int64)))] _
            refine own_go (fun t₀ k₀ => XS.lmul X46.here hx rfl (Jvm.hb hby at_178) rfl k₀) ?_
            show Gm p e below T46 m 179 #[iv p0, iv p1, iv p2, iv p3, iv k, iv b2, rv r12, lv ((k.toInt64) + (0 : Int64)), .second, lv ((p1.toInt64) &&& (2147483647 : Int64)), .second, lv ((p2.toInt64) &&& (2147483647 : Int64)), .second, lv (fMin ((p1.toInt64) &&& (2147483647 : Int64)) ((p2.toInt64) &&& (2147483647 : Int64))), .second, iv b47, lv (-1 : Int64), .second, .unset, .unset] [(.long (((fMin ((p1.toInt64) &&& (2147483647 : Int64)) ((p2.toInt64) &&& (2147483647 : Int64))) + (1 : Int64)) * ((k.toInt64) + (0 : Int64))))] _
            refine own_go (fun t₀ k₀ => X46.ldc2J hx hown (mvT hZ (hw _ (List.mem_of_getElem? (i := 21) rfl))) rfl (Jvm.hb hby at_179) k₀) ?_
            show Gm p e below T46 m 182 #[iv p0, iv p1, iv p2, iv p3, iv k, iv b2, rv r12, lv ((k.toInt64) + (0 : Int64)), .second, lv ((p1.toInt64) &&& (2147483647 : Int64)), .second, lv ((p2.toInt64) &&& (2147483647 : Int64)), .second, lv (fMin ((p1.toInt64) &&& (2147483647 : Int64)) ((p2.toInt64) &&& (2147483647 : Int64))), .second, iv b47, lv (-1 : Int64), .second, .unset, .unset] [(.long (2 : Int64)), (.long (((fMin ((p1.toInt64) &&& (2147483647 : Int64)) ((p2.toInt64) &&& (2147483647 : Int64))) + (1 : Int64)) * ((k.toInt64) + (0 : Int64))))] _
            refine own_go (fun t₀ k₀ => XS.ladd X46.here hx rfl (Jvm.hb hby at_182) rfl k₀) ?_
            show Gm p e below T46 m 183 #[iv p0, iv p1, iv p2, iv p3, iv k, iv b2, rv r12, lv ((k.toInt64) + (0 : Int64)), .second, lv ((p1.toInt64) &&& (2147483647 : Int64)), .second, lv ((p2.toInt64) &&& (2147483647 : Int64)), .second, lv (fMin ((p1.toInt64) &&& (2147483647 : Int64)) ((p2.toInt64) &&& (2147483647 : Int64))), .second, iv b47, lv (-1 : Int64), .second, .unset, .unset] [(.long ((((fMin ((p1.toInt64) &&& (2147483647 : Int64)) ((p2.toInt64) &&& (2147483647 : Int64))) + (1 : Int64)) * ((k.toInt64) + (0 : Int64))) + (2 : Int64)))] _
            refine own_go (fun t₀ k₀ => XS.goto X46.here hx rfl (pc0 := 183) (pc' := 196) rfl (Jvm.hb hby at_183) (by decide) (by decide) k₀) ?_
            show Gm p e below T46 m 196 #[iv p0, iv p1, iv p2, iv p3, iv k, iv b2, rv r12, lv ((k.toInt64) + (0 : Int64)), .second, lv ((p1.toInt64) &&& (2147483647 : Int64)), .second, lv ((p2.toInt64) &&& (2147483647 : Int64)), .second, lv (fMin ((p1.toInt64) &&& (2147483647 : Int64)) ((p2.toInt64) &&& (2147483647 : Int64))), .second, iv b47, lv (-1 : Int64), .second, .unset, .unset] [(.long ((((fMin ((p1.toInt64) &&& (2147483647 : Int64)) ((p2.toInt64) &&& (2147483647 : Int64))) + (1 : Int64)) * ((k.toInt64) + (0 : Int64))) + (2 : Int64)))] _
            refine own_go (fun t₀ k₀ => XS.lstore X46.here hx rfl (Jvm.hb hby at_196) rfl (l' := #[iv p0, iv p1, iv p2, iv p3, iv k, iv b2, rv r12, lv ((k.toInt64) + (0 : Int64)), .second, lv ((p1.toInt64) &&& (2147483647 : Int64)), .second, lv ((p2.toInt64) &&& (2147483647 : Int64)), .second, lv (fMin ((p1.toInt64) &&& (2147483647 : Int64)) ((p2.toInt64) &&& (2147483647 : Int64))), .second, iv b47, lv (-1 : Int64), .second, lv ((((fMin ((p1.toInt64) &&& (2147483647 : Int64)) ((p2.toInt64) &&& (2147483647 : Int64))) + (1 : Int64)) * ((k.toInt64) + (0 : Int64))) + (2 : Int64)), .second]) rfl k₀) ?_
            show Gm p e below T46 m 198 #[iv p0, iv p1, iv p2, iv p3, iv k, iv b2, rv r12, lv ((k.toInt64) + (0 : Int64)), .second, lv ((p1.toInt64) &&& (2147483647 : Int64)), .second, lv ((p2.toInt64) &&& (2147483647 : Int64)), .second, lv (fMin ((p1.toInt64) &&& (2147483647 : Int64)) ((p2.toInt64) &&& (2147483647 : Int64))), .second, iv b47, lv (-1 : Int64), .second, lv ((((fMin ((p1.toInt64) &&& (2147483647 : Int64)) ((p2.toInt64) &&& (2147483647 : Int64))) + (1 : Int64)) * ((k.toInt64) + (0 : Int64))) + (2 : Int64)), .second] [] _
            refine own_go (fun t₀ k₀ => XS.aload X46.here hx rfl (Jvm.hb hby at_198) rfl rfl k₀) ?_
            show Gm p e below T46 m 200 #[iv p0, iv p1, iv p2, iv p3, iv k, iv b2, rv r12, lv ((k.toInt64) + (0 : Int64)), .second, lv ((p1.toInt64) &&& (2147483647 : Int64)), .second, lv ((p2.toInt64) &&& (2147483647 : Int64)), .second, lv (fMin ((p1.toInt64) &&& (2147483647 : Int64)) ((p2.toInt64) &&& (2147483647 : Int64))), .second, iv b47, lv (-1 : Int64), .second, lv ((((fMin ((p1.toInt64) &&& (2147483647 : Int64)) ((p2.toInt64) &&& (2147483647 : Int64))) + (1 : Int64)) * ((k.toInt64) + (0 : Int64))) + (2 : Int64)), .second] [(.ref r12)] _
            refine own_go (fun t₀ k₀ => XS.lload X46.here hx rfl (Jvm.hb hby at_200) rfl k₀) ?_
            show Gm p e below T46 m 202 #[iv p0, iv p1, iv p2, iv p3, iv k, iv b2, rv r12, lv ((k.toInt64) + (0 : Int64)), .second, lv ((p1.toInt64) &&& (2147483647 : Int64)), .second, lv ((p2.toInt64) &&& (2147483647 : Int64)), .second, lv (fMin ((p1.toInt64) &&& (2147483647 : Int64)) ((p2.toInt64) &&& (2147483647 : Int64))), .second, iv b47, lv (-1 : Int64), .second, lv ((((fMin ((p1.toInt64) &&& (2147483647 : Int64)) ((p2.toInt64) &&& (2147483647 : Int64))) + (1 : Int64)) * ((k.toInt64) + (0 : Int64))) + (2 : Int64)), .second] [(.long (fMin ((p1.toInt64) &&& (2147483647 : Int64)) ((p2.toInt64) &&& (2147483647 : Int64)))), (.ref r12)] _
            refine own_go (fun t₀ k₀ => XS.lload X46.here hx rfl (Jvm.hb hby at_202) rfl k₀) ?_
            show Gm p e below T46 m 204 #[iv p0, iv p1, iv p2, iv p3, iv k, iv b2, rv r12, lv ((k.toInt64) + (0 : Int64)), .second, lv ((p1.toInt64) &&& (2147483647 : Int64)), .second, lv ((p2.toInt64) &&& (2147483647 : Int64)), .second, lv (fMin ((p1.toInt64) &&& (2147483647 : Int64)) ((p2.toInt64) &&& (2147483647 : Int64))), .second, iv b47, lv (-1 : Int64), .second, lv ((((fMin ((p1.toInt64) &&& (2147483647 : Int64)) ((p2.toInt64) &&& (2147483647 : Int64))) + (1 : Int64)) * ((k.toInt64) + (0 : Int64))) + (2 : Int64)), .second] [(.long (-1 : Int64)), (.long (fMin ((p1.toInt64) &&& (2147483647 : Int64)) ((p2.toInt64) &&& (2147483647 : Int64)))), (.ref r12)] _
            obtain ⟨cq51, kq51, q51a, q51b, q51c⟩ := isOf hZ e46 Ec43
            obtain ⟨_, _, ⟨T51, L51, k51, n51⟩, -, X51, ⟨Lc51, hQ51, l51, y51, z51⟩, st51⟩ := X46.virtualBack hx (y := (⟨"com/example/data_in_bounds/datainbounds/metapath/RegexProgram$Fragment", "repeatedLength", "(JJ)J"⟩ : MethodName)) (z := (⟨"com/example/data_in_bounds/datainbounds/metapath/RegexProgram$Fragment", "repeatedLength", "(JJ)J"⟩ : MethodName)) hown (mvT hZ (hw _ (List.mem_of_getElem? (i := 22) rfl))) (mvT hZ (hw _ (List.mem_of_getElem? (i := 23) rfl))) (notFace_of_selects (args := #[]) (mvT hZ (hw _ (List.mem_of_getElem? (i := 25) rfl)))) (mvT hZ (hw _ (List.mem_of_getElem? (i := 25) rfl))) (mvT hZ (hw _ (List.mem_of_getElem? (i := 24) rfl))) (by decide) (backOf (W := 0) (rm4 l Z a0 hw [] r12 (fMin ((p1.toInt64) &&& (2147483647 : Int64)) ((p2.toInt64) &&& (2147483647 : Int64))) (-1 : Int64) (2 : Int32) (b2 &&& (1 : Int32)) T43.heap n0 Z43 Flen43 Fnul43) hZ (hw _ (List.mem_of_getElem? (i := 26) rfl)) (hw _ (List.mem_of_getElem? (i := 2) rfl)) (by decide) (by decide)) q51a q51c (g := (mkF m 204 #[iv p0, iv p1, iv p2, iv p3, iv k, iv b2, rv r12, lv ((k.toInt64) + (0 : Int64)), .second, lv ((p1.toInt64) &&& (2147483647 : Int64)), .second, lv ((p2.toInt64) &&& (2147483647 : Int64)), .second, lv (fMin ((p1.toInt64) &&& (2147483647 : Int64)) ((p2.toInt64) &&& (2147483647 : Int64))), .second, iv b47, lv (-1 : Int64), .second, lv ((((fMin ((p1.toInt64) &&& (2147483647 : Int64)) ((p2.toInt64) &&& (2147483647 : Int64))) + (1 : Int64)) * ((k.toInt64) + (0 : Int64))) + (2 : Int64)), .second] [(.long (-1 : Int64)), (.long (fMin ((p1.toInt64) &&& (2147483647 : Int64)) ((p2.toInt64) &&& (2147483647 : Int64)))), (.ref r12)])) rfl (by rw [hml]; rfl) (Steps.refl _) (argsL := [(.long (fMin ((p1.toInt64) &&& (2147483647 : Int64)) ((p2.toInt64) &&& (2147483647 : Int64)))), (.long (-1 : Int64))]) (rest := []) (lenOf own_pd4 rfl) rfl (by show 2 * 0 + _ ≤ _; exact Nat.le_of_eq rfl) (Jvm.hb hby at_204) (fun _ _ => ⟨rfl, e46, (by decide : 4 + 0 ≤ _), (by decide : 24 + 0 ≤ _)⟩)
            dsimp only [Pt.U, Pt.locs, Pt.cells, Pt.slots] at X51 l51 y51 z51 st51 hQ51
            subst l51 y51 z51
            obtain ⟨rfl, Nq51, eq51⟩ := hQ51
            have N51 := Fr.app N46 Nq51
            have e51 : T51.heap = T43.heap := eq51
            refine own_go (fun t k => st51.trans k) ?_
            show Gm p e below T51 m 207 #[iv p0, iv p1, iv p2, iv p3, iv k, iv b2, rv r12, lv ((k.toInt64) + (0 : Int64)), .second, lv ((p1.toInt64) &&& (2147483647 : Int64)), .second, lv ((p2.toInt64) &&& (2147483647 : Int64)), .second, lv (fMin ((p1.toInt64) &&& (2147483647 : Int64)) ((p2.toInt64) &&& (2147483647 : Int64))), .second, iv b47, lv (-1 : Int64), .second, lv ((((fMin ((p1.toInt64) &&& (2147483647 : Int64)) ((p2.toInt64) &&& (2147483647 : Int64))) + (1 : Int64)) * ((k.toInt64) + (0 : Int64))) + (2 : Int64)), .second] [(.long (fR (fMin ((p1.toInt64) &&& (2147483647 : Int64)) ((p2.toInt64) &&& (2147483647 : Int64))) (-1 : Int64) (2 : Int32) (b2 &&& (1 : Int32))))] _
            refine own_go (fun t₀ k₀ => XS.lload X51.here hx rfl (Jvm.hb hby at_207) rfl k₀) ?_
            show Gm p e below T51 m 209 #[iv p0, iv p1, iv p2, iv p3, iv k, iv b2, rv r12, lv ((k.toInt64) + (0 : Int64)), .second, lv ((p1.toInt64) &&& (2147483647 : Int64)), .second, lv ((p2.toInt64) &&& (2147483647 : Int64)), .second, lv (fMin ((p1.toInt64) &&& (2147483647 : Int64)) ((p2.toInt64) &&& (2147483647 : Int64))), .second, iv b47, lv (-1 : Int64), .second, lv ((((fMin ((p1.toInt64) &&& (2147483647 : Int64)) ((p2.toInt64) &&& (2147483647 : Int64))) + (1 : Int64)) * ((k.toInt64) + (0 : Int64))) + (2 : Int64)), .second] [(.long ((((fMin ((p1.toInt64) &&& (2147483647 : Int64)) ((p2.toInt64) &&& (2147483647 : Int64))) + (1 : Int64)) * ((k.toInt64) + (0 : Int64))) + (2 : Int64))), (.long (fR (fMin ((p1.toInt64) &&& (2147483647 : Int64)) ((p2.toInt64) &&& (2147483647 : Int64))) (-1 : Int64) (2 : Int32) (b2 &&& (1 : Int32))))] _
            refine own_go (fun t₀ k₀ => XT.lcmp X51.here hx rfl (Jvm.hb hby at_209) rfl k₀) ?_
            show Gm p e below T51 m 210 #[iv p0, iv p1, iv p2, iv p3, iv k, iv b2, rv r12, lv ((k.toInt64) + (0 : Int64)), .second, lv ((p1.toInt64) &&& (2147483647 : Int64)), .second, lv ((p2.toInt64) &&& (2147483647 : Int64)), .second, lv (fMin ((p1.toInt64) &&& (2147483647 : Int64)) ((p2.toInt64) &&& (2147483647 : Int64))), .second, iv b47, lv (-1 : Int64), .second, lv ((((fMin ((p1.toInt64) &&& (2147483647 : Int64)) ((p2.toInt64) &&& (2147483647 : Int64))) + (1 : Int64)) * ((k.toInt64) + (0 : Int64))) + (2 : Int64)), .second] [(.int (XT.cmpL (fR (fMin ((p1.toInt64) &&& (2147483647 : Int64)) ((p2.toInt64) &&& (2147483647 : Int64))) (-1 : Int64) (2 : Int32) (b2 &&& (1 : Int32))) ((((fMin ((p1.toInt64) &&& (2147483647 : Int64)) ((p2.toInt64) &&& (2147483647 : Int64))) + (1 : Int64)) * ((k.toInt64) + (0 : Int64))) + (2 : Int64))))] _
            refine own_go (fun t₀ k₀ => XS.ifNo X51.here hx rfl (Jvm.hb hby at_210) rfl (XT.ll_ne_f (own_fin _ _ _ _ ((k.toInt64) + (0 : Int64)) _ (by rw [hk, if_pos (by rw [c45]; rfl)]; decide) (by rw [if_pos (by decide)]; try rfl))) k₀) ?_
            show Gm p e below T51 m 213 #[iv p0, iv p1, iv p2, iv p3, iv k, iv b2, rv r12, lv ((k.toInt64) + (0 : Int64)), .second, lv ((p1.toInt64) &&& (2147483647 : Int64)), .second, lv ((p2.toInt64) &&& (2147483647 : Int64)), .second, lv (fMin ((p1.toInt64) &&& (2147483647 : Int64)) ((p2.toInt64) &&& (2147483647 : Int64))), .second, iv b47, lv (-1 : Int64), .second, lv ((((fMin ((p1.toInt64) &&& (2147483647 : Int64)) ((p2.toInt64) &&& (2147483647 : Int64))) + (1 : Int64)) * ((k.toInt64) + (0 : Int64))) + (2 : Int64)), .second] [] _
            refine own_go (fun t₀ k₀ => XS.iconst X51.here hx rfl (Jvm.hb hby at_213) k₀) ?_
            show Gm p e below T51 m 214 #[iv p0, iv p1, iv p2, iv p3, iv k, iv b2, rv r12, lv ((k.toInt64) + (0 : Int64)), .second, lv ((p1.toInt64) &&& (2147483647 : Int64)), .second, lv ((p2.toInt64) &&& (2147483647 : Int64)), .second, lv (fMin ((p1.toInt64) &&& (2147483647 : Int64)) ((p2.toInt64) &&& (2147483647 : Int64))), .second, iv b47, lv (-1 : Int64), .second, lv ((((fMin ((p1.toInt64) &&& (2147483647 : Int64)) ((p2.toInt64) &&& (2147483647 : Int64))) + (1 : Int64)) * ((k.toInt64) + (0 : Int64))) + (2 : Int64)), .second] [(.int (1 : Int32))] _
            refine own_go (fun t₀ k₀ => XS.goto X51.here hx rfl (pc0 := 214) (pc' := 218) rfl (Jvm.hb hby at_214) (by decide) (by decide) k₀) ?_
            show Gm p e below T51 m 218 #[iv p0, iv p1, iv p2, iv p3, iv k, iv b2, rv r12, lv ((k.toInt64) + (0 : Int64)), .second, lv ((p1.toInt64) &&& (2147483647 : Int64)), .second, lv ((p2.toInt64) &&& (2147483647 : Int64)), .second, lv (fMin ((p1.toInt64) &&& (2147483647 : Int64)) ((p2.toInt64) &&& (2147483647 : Int64))), .second, iv b47, lv (-1 : Int64), .second, lv ((((fMin ((p1.toInt64) &&& (2147483647 : Int64)) ((p2.toInt64) &&& (2147483647 : Int64))) + (1 : Int64)) * ((k.toInt64) + (0 : Int64))) + (2 : Int64)), .second] [(.int (1 : Int32))] _
            exact own_retI X51 hx hlk (t := .boolean) Bd.returns rfl (by simp) (Jvm.hb hby at_218) e51 ⟨rfl, N51⟩ (by decide) (by decide)
        · have hfork := trivial
          refine own_go (fun t₀ k₀ => XS.ifNo X43.here hx rfl (Jvm.hb hby at_96) rfl (XT.i0_eq_f c45) k₀) ?_
          show Gm p e below T43 m 99 #[iv p0, iv p1, iv p2, iv p3, iv k, iv b2, rv r12, .unset, .unset, .unset, .unset, .unset, .unset, .unset, .unset, .unset, .unset, .unset, .unset, .unset] [(.long (k.toInt64))] _
          refine own_go (fun t₀ k₀ => X43.ldc2J hx hown (mvT hZ (hw _ (List.mem_of_getElem? (i := 14) rfl))) rfl (Jvm.hb hby at_99) k₀) ?_
          show Gm p e below T43 m 102 #[iv p0, iv p1, iv p2, iv p3, iv k, iv b2, rv r12, .unset, .unset, .unset, .unset, .unset, .unset, .unset, .unset, .unset, .unset, .unset, .unset, .unset] [(.long (3 : Int64)), (.long (k.toInt64))] _
          refine own_go (fun t₀ k₀ => XS.goto X43.here hx rfl (pc0 := 102) (pc' := 106) rfl (Jvm.hb hby at_102) (by decide) (by decide) k₀) ?_
          show Gm p e below T43 m 106 #[iv p0, iv p1, iv p2, iv p3, iv k, iv b2, rv r12, .unset, .unset, .unset, .unset, .unset, .unset, .unset, .unset, .unset, .unset, .unset, .unset, .unset] [(.long (3 : Int64)), (.long (k.toInt64))] _
          refine own_go (fun t₀ k₀ => XS.ladd X43.here hx rfl (Jvm.hb hby at_106) rfl k₀) ?_
          show Gm p e below T43 m 107 #[iv p0, iv p1, iv p2, iv p3, iv k, iv b2, rv r12, .unset, .unset, .unset, .unset, .unset, .unset, .unset, .unset, .unset, .unset, .unset, .unset, .unset] [(.long ((k.toInt64) + (3 : Int64)))] _
          refine own_go (fun t₀ k₀ => XS.lstore X43.here hx rfl (Jvm.hb hby at_107) rfl (l' := #[iv p0, iv p1, iv p2, iv p3, iv k, iv b2, rv r12, lv ((k.toInt64) + (3 : Int64)), .second, .unset, .unset, .unset, .unset, .unset, .unset, .unset, .unset, .unset, .unset, .unset]) rfl k₀) ?_
          show Gm p e below T43 m 109 #[iv p0, iv p1, iv p2, iv p3, iv k, iv b2, rv r12, lv ((k.toInt64) + (3 : Int64)), .second, .unset, .unset, .unset, .unset, .unset, .unset, .unset, .unset, .unset, .unset, .unset] [] _
          refine own_go (fun t₀ k₀ => XS.iloadN X43.here hx rfl (Jvm.hb hby at_109) rfl k₀) ?_
          show Gm p e below T43 m 110 #[iv p0, iv p1, iv p2, iv p3, iv k, iv b2, rv r12, lv ((k.toInt64) + (3 : Int64)), .second, .unset, .unset, .unset, .unset, .unset, .unset, .unset, .unset, .unset, .unset, .unset] [(.int p1)] _
          refine own_go (fun t₀ k₀ => XS.i2l X43.here hx rfl (Jvm.hb hby at_110) rfl k₀) ?_
          show Gm p e below T43 m 111 #[iv p0, iv p1, iv p2, iv p3, iv k, iv b2, rv r12, lv ((k.toInt64) + (3 : Int64)), .second, .unset, .unset, .unset, .unset, .unset, .unset, .unset, .unset, .unset, .unset, .unset] [(.long (p1.toInt64))] _
          refine own_go (fun t₀ k₀ => X43.ldc2J hx hown (mvT hZ (hw _ (List.mem_of_getElem? (i := 15) rfl))) rfl (Jvm.hb hby at_111) k₀) ?_
          show Gm p e below T43 m 114 #[iv p0, iv p1, iv p2, iv p3, iv k, iv b2, rv r12, lv ((k.toInt64) + (3 : Int64)), .second, .unset, .unset, .unset, .unset, .unset, .unset, .unset, .unset, .unset, .unset, .unset] [(.long (2147483647 : Int64)), (.long (p1.toInt64))] _
          refine own_go (fun t₀ k₀ => XS.land X43.here hx rfl (Jvm.hb hby at_114) rfl k₀) ?_
          show Gm p e below T43 m 115 #[iv p0, iv p1, iv p2, iv p3, iv k, iv b2, rv r12, lv ((k.toInt64) + (3 : Int64)), .second, .unset, .unset, .unset, .unset, .unset, .unset, .unset, .unset, .unset, .unset, .unset] [(.long ((p1.toInt64) &&& (2147483647 : Int64)))] _
          refine own_go (fun t₀ k₀ => XS.lstore X43.here hx rfl (Jvm.hb hby at_115) rfl (l' := #[iv p0, iv p1, iv p2, iv p3, iv k, iv b2, rv r12, lv ((k.toInt64) + (3 : Int64)), .second, lv ((p1.toInt64) &&& (2147483647 : Int64)), .second, .unset, .unset, .unset, .unset, .unset, .unset, .unset, .unset, .unset]) rfl k₀) ?_
          show Gm p e below T43 m 117 #[iv p0, iv p1, iv p2, iv p3, iv k, iv b2, rv r12, lv ((k.toInt64) + (3 : Int64)), .second, lv ((p1.toInt64) &&& (2147483647 : Int64)), .second, .unset, .unset, .unset, .unset, .unset, .unset, .unset, .unset, .unset] [] _
          refine own_go (fun t₀ k₀ => XS.iloadN X43.here hx rfl (Jvm.hb hby at_117) rfl k₀) ?_
          show Gm p e below T43 m 118 #[iv p0, iv p1, iv p2, iv p3, iv k, iv b2, rv r12, lv ((k.toInt64) + (3 : Int64)), .second, lv ((p1.toInt64) &&& (2147483647 : Int64)), .second, .unset, .unset, .unset, .unset, .unset, .unset, .unset, .unset, .unset] [(.int p2)] _
          refine own_go (fun t₀ k₀ => XS.i2l X43.here hx rfl (Jvm.hb hby at_118) rfl k₀) ?_
          show Gm p e below T43 m 119 #[iv p0, iv p1, iv p2, iv p3, iv k, iv b2, rv r12, lv ((k.toInt64) + (3 : Int64)), .second, lv ((p1.toInt64) &&& (2147483647 : Int64)), .second, .unset, .unset, .unset, .unset, .unset, .unset, .unset, .unset, .unset] [(.long (p2.toInt64))] _
          refine own_go (fun t₀ k₀ => X43.ldc2J hx hown (mvT hZ (hw _ (List.mem_of_getElem? (i := 15) rfl))) rfl (Jvm.hb hby at_119) k₀) ?_
          show Gm p e below T43 m 122 #[iv p0, iv p1, iv p2, iv p3, iv k, iv b2, rv r12, lv ((k.toInt64) + (3 : Int64)), .second, lv ((p1.toInt64) &&& (2147483647 : Int64)), .second, .unset, .unset, .unset, .unset, .unset, .unset, .unset, .unset, .unset] [(.long (2147483647 : Int64)), (.long (p2.toInt64))] _
          refine own_go (fun t₀ k₀ => XS.land X43.here hx rfl (Jvm.hb hby at_122) rfl k₀) ?_
          show Gm p e below T43 m 123 #[iv p0, iv p1, iv p2, iv p3, iv k, iv b2, rv r12, lv ((k.toInt64) + (3 : Int64)), .second, lv ((p1.toInt64) &&& (2147483647 : Int64)), .second, .unset, .unset, .unset, .unset, .unset, .unset, .unset, .unset, .unset] [(.long ((p2.toInt64) &&& (2147483647 : Int64)))] _
          refine own_go (fun t₀ k₀ => XS.lstore X43.here hx rfl (Jvm.hb hby at_123) rfl (l' := #[iv p0, iv p1, iv p2, iv p3, iv k, iv b2, rv r12, lv ((k.toInt64) + (3 : Int64)), .second, lv ((p1.toInt64) &&& (2147483647 : Int64)), .second, lv ((p2.toInt64) &&& (2147483647 : Int64)), .second, .unset, .unset, .unset, .unset, .unset, .unset, .unset]) rfl k₀) ?_
          have hp := own_p p1.toInt64
          have hq := own_p p2.toInt64
          show Gm p e below T43 m 125 #[iv p0, iv p1, iv p2, iv p3, iv k, iv b2, rv r12, lv ((k.toInt64) + (3 : Int64)), .second, lv ((p1.toInt64) &&& (2147483647 : Int64)), .second, lv ((p2.toInt64) &&& (2147483647 : Int64)), .second, .unset, .unset, .unset, .unset, .unset, .unset, .unset] [] _
          refine own_go (fun t₀ k₀ => XS.lload X43.here hx rfl (Jvm.hb hby at_125) rfl k₀) ?_
          show Gm p e below T43 m 127 #[iv p0, iv p1, iv p2, iv p3, iv k, iv b2, rv r12, lv ((k.toInt64) + (3 : Int64)), .second, lv ((p1.toInt64) &&& (2147483647 : Int64)), .second, lv ((p2.toInt64) &&& (2147483647 : Int64)), .second, .unset, .unset, .unset, .unset, .unset, .unset, .unset] [(.long ((p1.toInt64) &&& (2147483647 : Int64)))] _
          refine own_go (fun t₀ k₀ => XS.lload X43.here hx rfl (Jvm.hb hby at_127) rfl k₀) ?_
          show Gm p e below T43 m 129 #[iv p0, iv p1, iv p2, iv p3, iv k, iv b2, rv r12, lv ((k.toInt64) + (3 : Int64)), .second, lv ((p1.toInt64) &&& (2147483647 : Int64)), .second, lv ((p2.toInt64) &&& (2147483647 : Int64)), .second, .unset, .unset, .unset, .unset, .unset, .unset, .unset] [(.long ((p2.toInt64) &&& (2147483647 : Int64))), (.long ((p1.toInt64) &&& (2147483647 : Int64)))] _
          obtain ⟨_, _, ⟨T52, L52, k52, n52⟩, -, X52, ⟨Lc52, hQ52, l52, y52, z52⟩, st52⟩ := Jvm.LawKit.callS X43 hx (y := (⟨"java/lang/Math", "min", "(JJ)J"⟩ : MethodName)) hown (mvT hZ (hw _ (List.mem_of_getElem? (i := 16) rfl))) (mvT hZ (hw _ (List.mem_of_getElem? (i := 17) rfl))) (mvT hZ (hw _ (List.mem_of_getElem? (i := 18) rfl))) (mvT hZ (hw _ (List.mem_of_getElem? (i := 19) rfl))) (by decide) (backOf (W := 0) (rm3 l Z a0 hw [] ((p1.toInt64) &&& (2147483647 : Int64)) ((p2.toInt64) &&& (2147483647 : Int64)) T43.heap n0 Z43) hZ (hw _ (List.mem_of_getElem? (i := 19) rfl)) (hw _ (List.mem_of_getElem? (i := 18) rfl)) (by decide) (by decide)) (g := (mkF m 129 #[iv p0, iv p1, iv p2, iv p3, iv k, iv b2, rv r12, lv ((k.toInt64) + (3 : Int64)), .second, lv ((p1.toInt64) &&& (2147483647 : Int64)), .second, lv ((p2.toInt64) &&& (2147483647 : Int64)), .second, .unset, .unset, .unset, .unset, .unset, .unset, .unset] [(.long ((p2.toInt64) &&& (2147483647 : Int64))), (.long ((p1.toInt64) &&& (2147483647 : Int64)))])) rfl (by rw [hml]; rfl) (argsL := [(.long ((p1.toInt64) &&& (2147483647 : Int64))), (.long ((p2.toInt64) &&& (2147483647 : Int64)))]) (rest := []) (lenOf own_pd4 rfl) rfl (by show 2 * 0 + _ ≤ _; exact Nat.le_of_eq rfl) (Jvm.hb hby at_129) (fun _ _ => ⟨rfl, rfl, (by decide : 4 + 0 ≤ _), (by decide : 24 + 0 ≤ _)⟩)
          dsimp only [Pt.U, Pt.locs, Pt.cells, Pt.slots] at X52 l52 y52 z52 st52 hQ52
          subst l52 y52 z52
          obtain ⟨rfl, Nq52, eq52⟩ := hQ52
          have N52 := Fr.app N43 Nq52
          have e52 : T52.heap = T43.heap := eq52
          refine own_go st52 ?_
          show Gm p e below T52 m 132 #[iv p0, iv p1, iv p2, iv p3, iv k, iv b2, rv r12, lv ((k.toInt64) + (3 : Int64)), .second, lv ((p1.toInt64) &&& (2147483647 : Int64)), .second, lv ((p2.toInt64) &&& (2147483647 : Int64)), .second, .unset, .unset, .unset, .unset, .unset, .unset, .unset] [(.long (fMin ((p1.toInt64) &&& (2147483647 : Int64)) ((p2.toInt64) &&& (2147483647 : Int64))))] _
          refine own_go (fun t₀ k₀ => XS.lstore X52.here hx rfl (Jvm.hb hby at_132) rfl (l' := #[iv p0, iv p1, iv p2, iv p3, iv k, iv b2, rv r12, lv ((k.toInt64) + (3 : Int64)), .second, lv ((p1.toInt64) &&& (2147483647 : Int64)), .second, lv ((p2.toInt64) &&& (2147483647 : Int64)), .second, lv (fMin ((p1.toInt64) &&& (2147483647 : Int64)) ((p2.toInt64) &&& (2147483647 : Int64))), .second, .unset, .unset, .unset, .unset, .unset]) rfl k₀) ?_
          show Gm p e below T52 m 134 #[iv p0, iv p1, iv p2, iv p3, iv k, iv b2, rv r12, lv ((k.toInt64) + (3 : Int64)), .second, lv ((p1.toInt64) &&& (2147483647 : Int64)), .second, lv ((p2.toInt64) &&& (2147483647 : Int64)), .second, lv (fMin ((p1.toInt64) &&& (2147483647 : Int64)) ((p2.toInt64) &&& (2147483647 : Int64))), .second, .unset, .unset, .unset, .unset, .unset] [] _
          refine own_go (fun t₀ k₀ => XS.iloadN X52.here hx rfl (Jvm.hb hby at_134) rfl k₀) ?_
          show Gm p e below T52 m 135 #[iv p0, iv p1, iv p2, iv p3, iv k, iv b2, rv r12, lv ((k.toInt64) + (3 : Int64)), .second, lv ((p1.toInt64) &&& (2147483647 : Int64)), .second, lv ((p2.toInt64) &&& (2147483647 : Int64)), .second, lv (fMin ((p1.toInt64) &&& (2147483647 : Int64)) ((p2.toInt64) &&& (2147483647 : Int64))), .second, .unset, .unset, .unset, .unset, .unset] [(.int p3)] _
          refine own_go (fun t₀ k₀ => XS.iconst X52.here hx rfl (Jvm.hb hby at_135) k₀) ?_
          show Gm p e below T52 m 136 #[iv p0, iv p1, iv p2, iv p3, iv k, iv b2, rv r12, lv ((k.toInt64) + (3 : Int64)), .second, lv ((p1.toInt64) &&& (2147483647 : Int64)), .second, lv ((p2.toInt64) &&& (2147483647 : Int64)), .second, lv (fMin ((p1.toInt64) &&& (2147483647 : Int64)) ((p2.toInt64) &&& (2147483647 : Int64))), .second, .unset, .unset, .unset, .unset, .unset] [(.int (1 : Int32)), (.int p3)] _
          refine own_go (fun t₀ k₀ => XS.iand X52.here hx rfl (Jvm.hb hby at_136) rfl k₀) ?_
          show Gm p e below T52 m 137 #[iv p0, iv p1, iv p2, iv p3, iv k, iv b2, rv r12, lv ((k.toInt64) + (3 : Int64)), .second, lv ((p1.toInt64) &&& (2147483647 : Int64)), .second, lv ((p2.toInt64) &&& (2147483647 : Int64)), .second, lv (fMin ((p1.toInt64) &&& (2147483647 : Int64)) ((p2.toInt64) &&& (2147483647 : Int64))), .second, .unset, .unset, .unset, .unset, .unset] [(.int (p3 &&& (1 : Int32)))] _
          obtain ⟨b53, hb53, k53⟩ : ∃ z : Int32, z = (if (p3 &&& (1 : Int32)) = (0 : Int32) then (0 : Int32) else (1 : Int32)) ∧ ∀ t, Steps p.tables e below (T52.setTop (mkF m 145 #[iv p0, iv p1, iv p2, iv p3, iv k, iv b2, rv r12, lv ((k.toInt64) + (3 : Int64)), .second, lv ((p1.toInt64) &&& (2147483647 : Int64)), .second, lv ((p2.toInt64) &&& (2147483647 : Int64)), .second, lv (fMin ((p1.toInt64) &&& (2147483647 : Int64)) ((p2.toInt64) &&& (2147483647 : Int64))), .second, .unset, .unset, .unset, .unset, .unset] [(.int z)])) t → Steps p.tables e below (T52.setTop (mkF m 137 #[iv p0, iv p1, iv p2, iv p3, iv k, iv b2, rv r12, lv ((k.toInt64) + (3 : Int64)), .second, lv ((p1.toInt64) &&& (2147483647 : Int64)), .second, lv ((p2.toInt64) &&& (2147483647 : Int64)), .second, lv (fMin ((p1.toInt64) &&& (2147483647 : Int64)) ((p2.toInt64) &&& (2147483647 : Int64))), .second, .unset, .unset, .unset, .unset, .unset] [(.int (p3 &&& (1 : Int32)))])) t := by
            by_cases hq : (p3 &&& (1 : Int32)) = (0 : Int32)
            · refine ⟨(0 : Int32), by rw [if_pos hq], fun t₀ k₀ => ?_⟩
              refine XS.ifYes X52.here hx rfl (pc0 := 137) (pc' := 144) rfl (Jvm.hb hby at_137) rfl (XT.i0_eq_t hq) (by decide) (by decide) ?_
              refine XS.iconst X52.here hx rfl (Jvm.hb hby at_144) ?_
              exact k₀
            · refine ⟨(1 : Int32), by rw [if_neg hq], fun t₀ k₀ => ?_⟩
              refine XS.ifNo X52.here hx rfl (Jvm.hb hby at_137) rfl (XT.i0_eq_f hq) ?_
              refine XS.iconst X52.here hx rfl (Jvm.hb hby at_140) ?_
              refine XS.goto X52.here hx rfl (pc0 := 141) (pc' := 145) rfl (Jvm.hb hby at_141) (by decide) (by decide) ?_
              exact k₀
          refine own_go k53 ?_
          show Gm p e below T52 m 145 #[iv p0, iv p1, iv p2, iv p3, iv k, iv b2, rv r12, lv ((k.toInt64) + (3 : Int64)), .second, lv ((p1.toInt64) &&& (2147483647 : Int64)), .second, lv ((p2.toInt64) &&& (2147483647 : Int64)), .second, lv (fMin ((p1.toInt64) &&& (2147483647 : Int64)) ((p2.toInt64) &&& (2147483647 : Int64))), .second, .unset, .unset, .unset, .unset, .unset] [(.int b53)] _
          refine own_go (fun t₀ k₀ => XS.istore X52.here hx rfl (Jvm.hb hby at_145) rfl (l' := #[iv p0, iv p1, iv p2, iv p3, iv k, iv b2, rv r12, lv ((k.toInt64) + (3 : Int64)), .second, lv ((p1.toInt64) &&& (2147483647 : Int64)), .second, lv ((p2.toInt64) &&& (2147483647 : Int64)), .second, lv (fMin ((p1.toInt64) &&& (2147483647 : Int64)) ((p2.toInt64) &&& (2147483647 : Int64))), .second, iv b53, .unset, .unset, .unset, .unset]) rfl k₀) ?_
          show Gm p e below T52 m 147 #[iv p0, iv p1, iv p2, iv p3, iv k, iv b2, rv r12, lv ((k.toInt64) + (3 : Int64)), .second, lv ((p1.toInt64) &&& (2147483647 : Int64)), .second, lv ((p2.toInt64) &&& (2147483647 : Int64)), .second, lv (fMin ((p1.toInt64) &&& (2147483647 : Int64)) ((p2.toInt64) &&& (2147483647 : Int64))), .second, iv b53, .unset, .unset, .unset, .unset] [] _
          refine own_go (fun t₀ k₀ => XS.iload X52.here hx rfl (Jvm.hb hby at_147) rfl k₀) ?_
          show Gm p e below T52 m 149 #[iv p0, iv p1, iv p2, iv p3, iv k, iv b2, rv r12, lv ((k.toInt64) + (3 : Int64)), .second, lv ((p1.toInt64) &&& (2147483647 : Int64)), .second, lv ((p2.toInt64) &&& (2147483647 : Int64)), .second, lv (fMin ((p1.toInt64) &&& (2147483647 : Int64)) ((p2.toInt64) &&& (2147483647 : Int64))), .second, iv b53, .unset, .unset, .unset, .unset] [(.int b53)] _
          by_cases c54 : b53 = (0 : Int32)
          · have hfork := trivial
            refine own_go (fun t₀ k₀ => XS.ifYes X52.here hx rfl (pc0 := 149) (pc' := 158) rfl (Jvm.hb hby at_149) rfl (XT.i0_eq_t c54) (by decide) (by decide) k₀) ?_
            show Gm p e below T52 m 158 #[iv p0, iv p1, iv p2, iv p3, iv k, iv b2, rv r12, lv ((k.toInt64) + (3 : Int64)), .second, lv ((p1.toInt64) &&& (2147483647 : Int64)), .second, lv ((p2.toInt64) &&& (2147483647 : Int64)), .second, lv (fMin ((p1.toInt64) &&& (2147483647 : Int64)) ((p2.toInt64) &&& (2147483647 : Int64))), .second, iv b53, .unset, .unset, .unset, .unset] [] _
            refine own_go (fun t₀ k₀ => XS.lload X52.here hx rfl (Jvm.hb hby at_158) rfl k₀) ?_
            show Gm p e below T52 m 160 #[iv p0, iv p1, iv p2, iv p3, iv k, iv b2, rv r12, lv ((k.toInt64) + (3 : Int64)), .second, lv ((p1.toInt64) &&& (2147483647 : Int64)), .second, lv ((p2.toInt64) &&& (2147483647 : Int64)), .second, lv (fMin ((p1.toInt64) &&& (2147483647 : Int64)) ((p2.toInt64) &&& (2147483647 : Int64))), .second, iv b53, .unset, .unset, .unset, .unset] [(.long ((p1.toInt64) &&& (2147483647 : Int64)))] _
            refine own_go (fun t₀ k₀ => XS.lload X52.here hx rfl (Jvm.hb hby at_160) rfl k₀) ?_
            show Gm p e below T52 m 162 #[iv p0, iv p1, iv p2, iv p3, iv k, iv b2, rv r12, lv ((k.toInt64) + (3 : Int64)), .second, lv ((p1.toInt64) &&& (2147483647 : Int64)), .second, lv ((p2.toInt64) &&& (2147483647 : Int64)), .second, lv (fMin ((p1.toInt64) &&& (2147483647 : Int64)) ((p2.toInt64) &&& (2147483647 : Int64))), .second, iv b53, .unset, .unset, .unset, .unset] [(.long ((p2.toInt64) &&& (2147483647 : Int64))), (.long ((p1.toInt64) &&& (2147483647 : Int64)))] _
            obtain ⟨_, _, ⟨T55, L55, k55, n55⟩, -, X55, ⟨Lc55, hQ55, l55, y55, z55⟩, st55⟩ := Jvm.LawKit.callS X52 hx (y := (⟨"java/lang/Math", "max", "(JJ)J"⟩ : MethodName)) hown (mvT hZ (hw _ (List.mem_of_getElem? (i := 30) rfl))) (mvT hZ (hw _ (List.mem_of_getElem? (i := 31) rfl))) (mvT hZ (hw _ (List.mem_of_getElem? (i := 18) rfl))) (mvT hZ (hw _ (List.mem_of_getElem? (i := 32) rfl))) (by decide) (backOf (W := 0) (rm5 l Z a0 hw [] ((p1.toInt64) &&& (2147483647 : Int64)) ((p2.toInt64) &&& (2147483647 : Int64)) T43.heap n0 Z43) hZ (hw _ (List.mem_of_getElem? (i := 32) rfl)) (hw _ (List.mem_of_getElem? (i := 18) rfl)) (by decide) (by decide)) (g := (mkF m 162 #[iv p0, iv p1, iv p2, iv p3, iv k, iv b2, rv r12, lv ((k.toInt64) + (3 : Int64)), .second, lv ((p1.toInt64) &&& (2147483647 : Int64)), .second, lv ((p2.toInt64) &&& (2147483647 : Int64)), .second, lv (fMin ((p1.toInt64) &&& (2147483647 : Int64)) ((p2.toInt64) &&& (2147483647 : Int64))), .second, iv b53, .unset, .unset, .unset, .unset] [(.long ((p2.toInt64) &&& (2147483647 : Int64))), (.long ((p1.toInt64) &&& (2147483647 : Int64)))])) rfl (by rw [hml]; rfl) (argsL := [(.long ((p1.toInt64) &&& (2147483647 : Int64))), (.long ((p2.toInt64) &&& (2147483647 : Int64)))]) (rest := []) (lenOf own_pd4 rfl) rfl (by show 2 * 0 + _ ≤ _; exact Nat.le_of_eq rfl) (Jvm.hb hby at_162) (fun _ _ => ⟨rfl, e52, (by decide : 4 + 0 ≤ _), (by decide : 24 + 0 ≤ _)⟩)
            dsimp only [Pt.U, Pt.locs, Pt.cells, Pt.slots] at X55 l55 y55 z55 st55 hQ55
            subst l55 y55 z55
            obtain ⟨rfl, Nq55, eq55⟩ := hQ55
            have N55 := Fr.app N52 Nq55
            have e55 : T55.heap = T43.heap := eq55
            refine own_go st55 ?_
            show Gm p e below T55 m 165 #[iv p0, iv p1, iv p2, iv p3, iv k, iv b2, rv r12, lv ((k.toInt64) + (3 : Int64)), .second, lv ((p1.toInt64) &&& (2147483647 : Int64)), .second, lv ((p2.toInt64) &&& (2147483647 : Int64)), .second, lv (fMin ((p1.toInt64) &&& (2147483647 : Int64)) ((p2.toInt64) &&& (2147483647 : Int64))), .second, iv b53, .unset, .unset, .unset, .unset] [(.long (fMax ((p1.toInt64) &&& (2147483647 : Int64)) ((p2.toInt64) &&& (2147483647 : Int64))))] _
            refine own_go (fun t₀ k₀ => XS.lstore X55.here hx rfl (Jvm.hb hby at_165) rfl (l' := #[iv p0, iv p1, iv p2, iv p3, iv k, iv b2, rv r12, lv ((k.toInt64) + (3 : Int64)), .second, lv ((p1.toInt64) &&& (2147483647 : Int64)), .second, lv ((p2.toInt64) &&& (2147483647 : Int64)), .second, lv (fMin ((p1.toInt64) &&& (2147483647 : Int64)) ((p2.toInt64) &&& (2147483647 : Int64))), .second, iv b53, lv (fMax ((p1.toInt64) &&& (2147483647 : Int64)) ((p2.toInt64) &&& (2147483647 : Int64))), .second, .unset, .unset]) rfl k₀) ?_
            show Gm p e below T55 m 167 #[iv p0, iv p1, iv p2, iv p3, iv k, iv b2, rv r12, lv ((k.toInt64) + (3 : Int64)), .second, lv ((p1.toInt64) &&& (2147483647 : Int64)), .second, lv ((p2.toInt64) &&& (2147483647 : Int64)), .second, lv (fMin ((p1.toInt64) &&& (2147483647 : Int64)) ((p2.toInt64) &&& (2147483647 : Int64))), .second, iv b53, lv (fMax ((p1.toInt64) &&& (2147483647 : Int64)) ((p2.toInt64) &&& (2147483647 : Int64))), .second, .unset, .unset] [] _
            refine own_go (fun t₀ k₀ => XS.iload X55.here hx rfl (Jvm.hb hby at_167) rfl k₀) ?_
            show Gm p e below T55 m 169 #[iv p0, iv p1, iv p2, iv p3, iv k, iv b2, rv r12, lv ((k.toInt64) + (3 : Int64)), .second, lv ((p1.toInt64) &&& (2147483647 : Int64)), .second, lv ((p2.toInt64) &&& (2147483647 : Int64)), .second, lv (fMin ((p1.toInt64) &&& (2147483647 : Int64)) ((p2.toInt64) &&& (2147483647 : Int64))), .second, iv b53, lv (fMax ((p1.toInt64) &&& (2147483647 : Int64)) ((p2.toInt64) &&& (2147483647 : Int64))), .second, .unset, .unset] [(.int b53)] _
            refine own_go (fun t₀ k₀ => XS.ifYes X55.here hx rfl (pc0 := 169) (pc' := 186) rfl (Jvm.hb hby at_169) rfl (XT.i0_eq_t c54) (by decide) (by decide) k₀) ?_
            show Gm p e below T55 m 186 #[iv p0, iv p1, iv p2, iv p3, iv k, iv b2, rv r12, lv ((k.toInt64) + (3 : Int64)), .second, lv ((p1.toInt64) &&& (2147483647 : Int64)), .second, lv ((p2.toInt64) &&& (2147483647 : Int64)), .second, lv (fMin ((p1.toInt64) &&& (2147483647 : Int64)) ((p2.toInt64) &&& (2147483647 : Int64))), .second, iv b53, lv (fMax ((p1.toInt64) &&& (2147483647 : Int64)) ((p2.toInt64) &&& (2147483647 : Int64))), .second, .unset, .unset] [] _
            refine own_go (fun t₀ k₀ => XS.lload X55.here hx rfl (Jvm.hb hby at_186) rfl k₀) ?_
            show Gm p e below T55 m 188 #[iv p0, iv p1, iv p2, iv p3, iv k, iv b2, rv r12, lv ((k.toInt64) + (3 : Int64)), .second, lv ((p1.toInt64) &&& (2147483647 : Int64)), .second, lv ((p2.toInt64) &&& (2147483647 : Int64)), .second, lv (fMin ((p1.toInt64) &&& (2147483647 : Int64)) ((p2.toInt64) &&& (2147483647 : Int64))), .second, iv b53, lv (fMax ((p1.toInt64) &&& (2147483647 : Int64)) ((p2.toInt64) &&& (2147483647 : Int64))), .second, .unset, .unset] [(.long (fMax ((p1.toInt64) &&& (2147483647 : Int64)) ((p2.toInt64) &&& (2147483647 : Int64))))] _
            refine own_go (fun t₀ k₀ => XS.lload X55.here hx rfl (Jvm.hb hby at_188) rfl k₀) ?_
            show Gm p e below T55 m 190 #[iv p0, iv p1, iv p2, iv p3, iv k, iv b2, rv r12, lv ((k.toInt64) + (3 : Int64)), .second, lv ((p1.toInt64) &&& (2147483647 : Int64)), .second, lv ((p2.toInt64) &&& (2147483647 : Int64)), .second, lv (fMin ((p1.toInt64) &&& (2147483647 : Int64)) ((p2.toInt64) &&& (2147483647 : Int64))), .second, iv b53, lv (fMax ((p1.toInt64) &&& (2147483647 : Int64)) ((p2.toInt64) &&& (2147483647 : Int64))), .second, .unset, .unset] [(.long ((k.toInt64) + (3 : Int64))), (.long (fMax ((p1.toInt64) &&& (2147483647 : Int64)) ((p2.toInt64) &&& (2147483647 : Int64))))] _
            refine own_go (fun t₀ k₀ => XS.lconst X55.here hx rfl (Jvm.hb hby at_190) k₀) ?_
            show Gm p e below T55 m 191 #[iv p0, iv p1, iv p2, iv p3, iv k, iv b2, rv r12, lv ((k.toInt64) + (3 : Int64)), .second, lv ((p1.toInt64) &&& (2147483647 : Int64)), .second, lv ((p2.toInt64) &&& (2147483647 : Int64)), .second, lv (fMin ((p1.toInt64) &&& (2147483647 : Int64)) ((p2.toInt64) &&& (2147483647 : Int64))), .second, iv b53, lv (fMax ((p1.toInt64) &&& (2147483647 : Int64)) ((p2.toInt64) &&& (2147483647 : Int64))), .second, .unset, .unset] [(.long (1 : Int64)), (.long ((k.toInt64) + (3 : Int64))), (.long (fMax ((p1.toInt64) &&& (2147483647 : Int64)) ((p2.toInt64) &&& (2147483647 : Int64))))] _
            refine own_go (fun t₀ k₀ => XS.ladd X55.here hx rfl (Jvm.hb hby at_191) rfl k₀) ?_
            show Gm p e below T55 m 192 #[iv p0, iv p1, iv p2, iv p3, iv k, iv b2, rv r12, lv ((k.toInt64) + (3 : Int64)), .second, lv ((p1.toInt64) &&& (2147483647 : Int64)), .second, lv ((p2.toInt64) &&& (2147483647 : Int64)), .second, lv (fMin ((p1.toInt64) &&& (2147483647 : Int64)) ((p2.toInt64) &&& (2147483647 : Int64))), .second, iv b53, lv (fMax ((p1.toInt64) &&& (2147483647 : Int64)) ((p2.toInt64) &&& (2147483647 : Int64))), .second, .unset, .unset] [(.long (((k.toInt64) + (3 : Int64)) + (1 : Int64))), (.long (fMax ((p1.toInt64) &&& (2147483647 : Int64)) ((p2.toInt64) &&& (2147483647 : Int64))))] _
            refine own_go (fun t₀ k₀ => XS.lmul X55.here hx rfl (Jvm.hb hby at_192) rfl k₀) ?_
            show Gm p e below T55 m 193 #[iv p0, iv p1, iv p2, iv p3, iv k, iv b2, rv r12, lv ((k.toInt64) + (3 : Int64)), .second, lv ((p1.toInt64) &&& (2147483647 : Int64)), .second, lv ((p2.toInt64) &&& (2147483647 : Int64)), .second, lv (fMin ((p1.toInt64) &&& (2147483647 : Int64)) ((p2.toInt64) &&& (2147483647 : Int64))), .second, iv b53, lv (fMax ((p1.toInt64) &&& (2147483647 : Int64)) ((p2.toInt64) &&& (2147483647 : Int64))), .second, .unset, .unset] [(.long ((fMax ((p1.toInt64) &&& (2147483647 : Int64)) ((p2.toInt64) &&& (2147483647 : Int64))) * (((k.toInt64) + (3 : Int64)) + (1 : Int64))))] _
            refine own_go (fun t₀ k₀ => XS.lload X55.here hx rfl (Jvm.hb hby at_193) rfl k₀) ?_
            show Gm p e below T55 m 195 #[iv p0, iv p1, iv p2, iv p3, iv k, iv b2, rv r12, lv ((k.toInt64) + (3 : Int64)), .second, lv ((p1.toInt64) &&& (2147483647 : Int64)), .second, lv ((p2.toInt64) &&& (2147483647 : Int64)), .second, lv (fMin ((p1.toInt64) &&& (2147483647 : Int64)) ((p2.toInt64) &&& (2147483647 : Int64))), .second, iv b53, lv (fMax ((p1.toInt64) &&& (2147483647 : Int64)) ((p2.toInt64) &&& (2147483647 : Int64))), .second, .unset, .unset] [(.long (fMin ((p1.toInt64) &&& (2147483647 : Int64)) ((p2.toInt64) &&& (2147483647 : Int64)))), (.long ((fMax ((p1.toInt64) &&& (2147483647 : Int64)) ((p2.toInt64) &&& (2147483647 : Int64))) * (((k.toInt64) + (3 : Int64)) + (1 : Int64))))] _
            refine own_go (fun t₀ k₀ => XS.lsub X55.here hx rfl (Jvm.hb hby at_195) rfl k₀) ?_
            show Gm p e below T55 m 196 #[iv p0, iv p1, iv p2, iv p3, iv k, iv b2, rv r12, lv ((k.toInt64) + (3 : Int64)), .second, lv ((p1.toInt64) &&& (2147483647 : Int64)), .second, lv ((p2.toInt64) &&& (2147483647 : Int64)), .second, lv (fMin ((p1.toInt64) &&& (2147483647 : Int64)) ((p2.toInt64) &&& (2147483647 : Int64))), .second, iv b53, lv (fMax ((p1.toInt64) &&& (2147483647 : Int64)) ((p2.toInt64) &&& (2147483647 : Int64))), .second, .unset, .unset] [(.long (((fMax ((p1.toInt64) &&& (2147483647 : Int64)) ((p2.toInt64) &&& (2147483647 : Int64))) * (((k.toInt64) + (3 : Int64)) + (1 : Int64))) - (fMin ((p1.toInt64) &&& (2147483647 : Int64)) ((p2.toInt64) &&& (2147483647 : Int64)))))] _
            refine own_go (fun t₀ k₀ => XS.lstore X55.here hx rfl (Jvm.hb hby at_196) rfl (l' := #[iv p0, iv p1, iv p2, iv p3, iv k, iv b2, rv r12, lv ((k.toInt64) + (3 : Int64)), .second, lv ((p1.toInt64) &&& (2147483647 : Int64)), .second, lv ((p2.toInt64) &&& (2147483647 : Int64)), .second, lv (fMin ((p1.toInt64) &&& (2147483647 : Int64)) ((p2.toInt64) &&& (2147483647 : Int64))), .second, iv b53, lv (fMax ((p1.toInt64) &&& (2147483647 : Int64)) ((p2.toInt64) &&& (2147483647 : Int64))), .second, lv (((fMax ((p1.toInt64) &&& (2147483647 : Int64)) ((p2.toInt64) &&& (2147483647 : Int64))) * (((k.toInt64) + (3 : Int64)) + (1 : Int64))) - (fMin ((p1.toInt64) &&& (2147483647 : Int64)) ((p2.toInt64) &&& (2147483647 : Int64)))), .second]) rfl k₀) ?_
            show Gm p e below T55 m 198 #[iv p0, iv p1, iv p2, iv p3, iv k, iv b2, rv r12, lv ((k.toInt64) + (3 : Int64)), .second, lv ((p1.toInt64) &&& (2147483647 : Int64)), .second, lv ((p2.toInt64) &&& (2147483647 : Int64)), .second, lv (fMin ((p1.toInt64) &&& (2147483647 : Int64)) ((p2.toInt64) &&& (2147483647 : Int64))), .second, iv b53, lv (fMax ((p1.toInt64) &&& (2147483647 : Int64)) ((p2.toInt64) &&& (2147483647 : Int64))), .second, lv (((fMax ((p1.toInt64) &&& (2147483647 : Int64)) ((p2.toInt64) &&& (2147483647 : Int64))) * (((k.toInt64) + (3 : Int64)) + (1 : Int64))) - (fMin ((p1.toInt64) &&& (2147483647 : Int64)) ((p2.toInt64) &&& (2147483647 : Int64)))), .second] [] _
            refine own_go (fun t₀ k₀ => XS.aload X55.here hx rfl (Jvm.hb hby at_198) rfl rfl k₀) ?_
            show Gm p e below T55 m 200 #[iv p0, iv p1, iv p2, iv p3, iv k, iv b2, rv r12, lv ((k.toInt64) + (3 : Int64)), .second, lv ((p1.toInt64) &&& (2147483647 : Int64)), .second, lv ((p2.toInt64) &&& (2147483647 : Int64)), .second, lv (fMin ((p1.toInt64) &&& (2147483647 : Int64)) ((p2.toInt64) &&& (2147483647 : Int64))), .second, iv b53, lv (fMax ((p1.toInt64) &&& (2147483647 : Int64)) ((p2.toInt64) &&& (2147483647 : Int64))), .second, lv (((fMax ((p1.toInt64) &&& (2147483647 : Int64)) ((p2.toInt64) &&& (2147483647 : Int64))) * (((k.toInt64) + (3 : Int64)) + (1 : Int64))) - (fMin ((p1.toInt64) &&& (2147483647 : Int64)) ((p2.toInt64) &&& (2147483647 : Int64)))), .second] [(.ref r12)] _
            refine own_go (fun t₀ k₀ => XS.lload X55.here hx rfl (Jvm.hb hby at_200) rfl k₀) ?_
            show Gm p e below T55 m 202 #[iv p0, iv p1, iv p2, iv p3, iv k, iv b2, rv r12, lv ((k.toInt64) + (3 : Int64)), .second, lv ((p1.toInt64) &&& (2147483647 : Int64)), .second, lv ((p2.toInt64) &&& (2147483647 : Int64)), .second, lv (fMin ((p1.toInt64) &&& (2147483647 : Int64)) ((p2.toInt64) &&& (2147483647 : Int64))), .second, iv b53, lv (fMax ((p1.toInt64) &&& (2147483647 : Int64)) ((p2.toInt64) &&& (2147483647 : Int64))), .second, lv (((fMax ((p1.toInt64) &&& (2147483647 : Int64)) ((p2.toInt64) &&& (2147483647 : Int64))) * (((k.toInt64) + (3 : Int64)) + (1 : Int64))) - (fMin ((p1.toInt64) &&& (2147483647 : Int64)) ((p2.toInt64) &&& (2147483647 : Int64)))), .second] [(.long (fMin ((p1.toInt64) &&& (2147483647 : Int64)) ((p2.toInt64) &&& (2147483647 : Int64)))), (.ref r12)] _
            refine own_go (fun t₀ k₀ => XS.lload X55.here hx rfl (Jvm.hb hby at_202) rfl k₀) ?_
            show Gm p e below T55 m 204 #[iv p0, iv p1, iv p2, iv p3, iv k, iv b2, rv r12, lv ((k.toInt64) + (3 : Int64)), .second, lv ((p1.toInt64) &&& (2147483647 : Int64)), .second, lv ((p2.toInt64) &&& (2147483647 : Int64)), .second, lv (fMin ((p1.toInt64) &&& (2147483647 : Int64)) ((p2.toInt64) &&& (2147483647 : Int64))), .second, iv b53, lv (fMax ((p1.toInt64) &&& (2147483647 : Int64)) ((p2.toInt64) &&& (2147483647 : Int64))), .second, lv (((fMax ((p1.toInt64) &&& (2147483647 : Int64)) ((p2.toInt64) &&& (2147483647 : Int64))) * (((k.toInt64) + (3 : Int64)) + (1 : Int64))) - (fMin ((p1.toInt64) &&& (2147483647 : Int64)) ((p2.toInt64) &&& (2147483647 : Int64)))), .second] [(.long (fMax ((p1.toInt64) &&& (2147483647 : Int64)) ((p2.toInt64) &&& (2147483647 : Int64)))), (.long (fMin ((p1.toInt64) &&& (2147483647 : Int64)) ((p2.toInt64) &&& (2147483647 : Int64)))), (.ref r12)] _
            obtain ⟨cq56, kq56, q56a, q56b, q56c⟩ := isOf hZ e55 Ec43
            obtain ⟨_, _, ⟨T56, L56, k56, n56⟩, -, X56, ⟨Lc56, hQ56, l56, y56, z56⟩, st56⟩ := X55.virtualBack hx (y := (⟨"com/example/data_in_bounds/datainbounds/metapath/RegexProgram$Fragment", "repeatedLength", "(JJ)J"⟩ : MethodName)) (z := (⟨"com/example/data_in_bounds/datainbounds/metapath/RegexProgram$Fragment", "repeatedLength", "(JJ)J"⟩ : MethodName)) hown (mvT hZ (hw _ (List.mem_of_getElem? (i := 22) rfl))) (mvT hZ (hw _ (List.mem_of_getElem? (i := 23) rfl))) (notFace_of_selects (args := #[]) (mvT hZ (hw _ (List.mem_of_getElem? (i := 25) rfl)))) (mvT hZ (hw _ (List.mem_of_getElem? (i := 25) rfl))) (mvT hZ (hw _ (List.mem_of_getElem? (i := 24) rfl))) (by decide) (backOf (W := 0) (rm4 l Z a0 hw [] r12 (fMin ((p1.toInt64) &&& (2147483647 : Int64)) ((p2.toInt64) &&& (2147483647 : Int64))) (fMax ((p1.toInt64) &&& (2147483647 : Int64)) ((p2.toInt64) &&& (2147483647 : Int64))) (2 : Int32) (b2 &&& (1 : Int32)) T43.heap n0 Z43 Flen43 Fnul43) hZ (hw _ (List.mem_of_getElem? (i := 26) rfl)) (hw _ (List.mem_of_getElem? (i := 2) rfl)) (by decide) (by decide)) q56a q56c (g := (mkF m 204 #[iv p0, iv p1, iv p2, iv p3, iv k, iv b2, rv r12, lv ((k.toInt64) + (3 : Int64)), .second, lv ((p1.toInt64) &&& (2147483647 : Int64)), .second, lv ((p2.toInt64) &&& (2147483647 : Int64)), .second, lv (fMin ((p1.toInt64) &&& (2147483647 : Int64)) ((p2.toInt64) &&& (2147483647 : Int64))), .second, iv b53, lv (fMax ((p1.toInt64) &&& (2147483647 : Int64)) ((p2.toInt64) &&& (2147483647 : Int64))), .second, lv (((fMax ((p1.toInt64) &&& (2147483647 : Int64)) ((p2.toInt64) &&& (2147483647 : Int64))) * (((k.toInt64) + (3 : Int64)) + (1 : Int64))) - (fMin ((p1.toInt64) &&& (2147483647 : Int64)) ((p2.toInt64) &&& (2147483647 : Int64)))), .second] [(.long (fMax ((p1.toInt64) &&& (2147483647 : Int64)) ((p2.toInt64) &&& (2147483647 : Int64)))), (.long (fMin ((p1.toInt64) &&& (2147483647 : Int64)) ((p2.toInt64) &&& (2147483647 : Int64)))), (.ref r12)])) rfl (by rw [hml]; rfl) (Steps.refl _) (argsL := [(.long (fMin ((p1.toInt64) &&& (2147483647 : Int64)) ((p2.toInt64) &&& (2147483647 : Int64)))), (.long (fMax ((p1.toInt64) &&& (2147483647 : Int64)) ((p2.toInt64) &&& (2147483647 : Int64))))]) (rest := []) (lenOf own_pd4 rfl) rfl (by show 2 * 0 + _ ≤ _; exact Nat.le_of_eq rfl) (Jvm.hb hby at_204) (fun _ _ => ⟨rfl, e55, (by decide : 4 + 0 ≤ _), (by decide : 24 + 0 ≤ _)⟩)
            dsimp only [Pt.U, Pt.locs, Pt.cells, Pt.slots] at X56 l56 y56 z56 st56 hQ56
            subst l56 y56 z56
            obtain ⟨rfl, Nq56, eq56⟩ := hQ56
            have N56 := Fr.app N55 Nq56
            have e56 : T56.heap = T43.heap := eq56
            refine own_go (fun t k => st56.trans k) ?_
            show Gm p e below T56 m 207 #[iv p0, iv p1, iv p2, iv p3, iv k, iv b2, rv r12, lv ((k.toInt64) + (3 : Int64)), .second, lv ((p1.toInt64) &&& (2147483647 : Int64)), .second, lv ((p2.toInt64) &&& (2147483647 : Int64)), .second, lv (fMin ((p1.toInt64) &&& (2147483647 : Int64)) ((p2.toInt64) &&& (2147483647 : Int64))), .second, iv b53, lv (fMax ((p1.toInt64) &&& (2147483647 : Int64)) ((p2.toInt64) &&& (2147483647 : Int64))), .second, lv (((fMax ((p1.toInt64) &&& (2147483647 : Int64)) ((p2.toInt64) &&& (2147483647 : Int64))) * (((k.toInt64) + (3 : Int64)) + (1 : Int64))) - (fMin ((p1.toInt64) &&& (2147483647 : Int64)) ((p2.toInt64) &&& (2147483647 : Int64)))), .second] [(.long (fR (fMin ((p1.toInt64) &&& (2147483647 : Int64)) ((p2.toInt64) &&& (2147483647 : Int64))) (fMax ((p1.toInt64) &&& (2147483647 : Int64)) ((p2.toInt64) &&& (2147483647 : Int64))) (2 : Int32) (b2 &&& (1 : Int32))))] _
            refine own_go (fun t₀ k₀ => XS.lload X56.here hx rfl (Jvm.hb hby at_207) rfl k₀) ?_
            show Gm p e below T56 m 209 #[iv p0, iv p1, iv p2, iv p3, iv k, iv b2, rv r12, lv ((k.toInt64) + (3 : Int64)), .second, lv ((p1.toInt64) &&& (2147483647 : Int64)), .second, lv ((p2.toInt64) &&& (2147483647 : Int64)), .second, lv (fMin ((p1.toInt64) &&& (2147483647 : Int64)) ((p2.toInt64) &&& (2147483647 : Int64))), .second, iv b53, lv (fMax ((p1.toInt64) &&& (2147483647 : Int64)) ((p2.toInt64) &&& (2147483647 : Int64))), .second, lv (((fMax ((p1.toInt64) &&& (2147483647 : Int64)) ((p2.toInt64) &&& (2147483647 : Int64))) * (((k.toInt64) + (3 : Int64)) + (1 : Int64))) - (fMin ((p1.toInt64) &&& (2147483647 : Int64)) ((p2.toInt64) &&& (2147483647 : Int64)))), .second] [(.long (((fMax ((p1.toInt64) &&& (2147483647 : Int64)) ((p2.toInt64) &&& (2147483647 : Int64))) * (((k.toInt64) + (3 : Int64)) + (1 : Int64))) - (fMin ((p1.toInt64) &&& (2147483647 : Int64)) ((p2.toInt64) &&& (2147483647 : Int64))))), (.long (fR (fMin ((p1.toInt64) &&& (2147483647 : Int64)) ((p2.toInt64) &&& (2147483647 : Int64))) (fMax ((p1.toInt64) &&& (2147483647 : Int64)) ((p2.toInt64) &&& (2147483647 : Int64))) (2 : Int32) (b2 &&& (1 : Int32))))] _
            refine own_go (fun t₀ k₀ => XT.lcmp X56.here hx rfl (Jvm.hb hby at_209) rfl k₀) ?_
            show Gm p e below T56 m 210 #[iv p0, iv p1, iv p2, iv p3, iv k, iv b2, rv r12, lv ((k.toInt64) + (3 : Int64)), .second, lv ((p1.toInt64) &&& (2147483647 : Int64)), .second, lv ((p2.toInt64) &&& (2147483647 : Int64)), .second, lv (fMin ((p1.toInt64) &&& (2147483647 : Int64)) ((p2.toInt64) &&& (2147483647 : Int64))), .second, iv b53, lv (fMax ((p1.toInt64) &&& (2147483647 : Int64)) ((p2.toInt64) &&& (2147483647 : Int64))), .second, lv (((fMax ((p1.toInt64) &&& (2147483647 : Int64)) ((p2.toInt64) &&& (2147483647 : Int64))) * (((k.toInt64) + (3 : Int64)) + (1 : Int64))) - (fMin ((p1.toInt64) &&& (2147483647 : Int64)) ((p2.toInt64) &&& (2147483647 : Int64)))), .second] [(.int (XT.cmpL (fR (fMin ((p1.toInt64) &&& (2147483647 : Int64)) ((p2.toInt64) &&& (2147483647 : Int64))) (fMax ((p1.toInt64) &&& (2147483647 : Int64)) ((p2.toInt64) &&& (2147483647 : Int64))) (2 : Int32) (b2 &&& (1 : Int32))) (((fMax ((p1.toInt64) &&& (2147483647 : Int64)) ((p2.toInt64) &&& (2147483647 : Int64))) * (((k.toInt64) + (3 : Int64)) + (1 : Int64))) - (fMin ((p1.toInt64) &&& (2147483647 : Int64)) ((p2.toInt64) &&& (2147483647 : Int64))))))] _
            refine own_go (fun t₀ k₀ => XS.ifNo X56.here hx rfl (Jvm.hb hby at_210) rfl (XT.ll_ne_f (own_fin _ _ _ _ ((k.toInt64) + (3 : Int64)) _ (by rw [hk, if_neg (own_nz hb2 c45)]; decide) (by rw [if_neg (own_max _ _ hp hq)]; try rfl))) k₀) ?_
            show Gm p e below T56 m 213 #[iv p0, iv p1, iv p2, iv p3, iv k, iv b2, rv r12, lv ((k.toInt64) + (3 : Int64)), .second, lv ((p1.toInt64) &&& (2147483647 : Int64)), .second, lv ((p2.toInt64) &&& (2147483647 : Int64)), .second, lv (fMin ((p1.toInt64) &&& (2147483647 : Int64)) ((p2.toInt64) &&& (2147483647 : Int64))), .second, iv b53, lv (fMax ((p1.toInt64) &&& (2147483647 : Int64)) ((p2.toInt64) &&& (2147483647 : Int64))), .second, lv (((fMax ((p1.toInt64) &&& (2147483647 : Int64)) ((p2.toInt64) &&& (2147483647 : Int64))) * (((k.toInt64) + (3 : Int64)) + (1 : Int64))) - (fMin ((p1.toInt64) &&& (2147483647 : Int64)) ((p2.toInt64) &&& (2147483647 : Int64)))), .second] [] _
            refine own_go (fun t₀ k₀ => XS.iconst X56.here hx rfl (Jvm.hb hby at_213) k₀) ?_
            show Gm p e below T56 m 214 #[iv p0, iv p1, iv p2, iv p3, iv k, iv b2, rv r12, lv ((k.toInt64) + (3 : Int64)), .second, lv ((p1.toInt64) &&& (2147483647 : Int64)), .second, lv ((p2.toInt64) &&& (2147483647 : Int64)), .second, lv (fMin ((p1.toInt64) &&& (2147483647 : Int64)) ((p2.toInt64) &&& (2147483647 : Int64))), .second, iv b53, lv (fMax ((p1.toInt64) &&& (2147483647 : Int64)) ((p2.toInt64) &&& (2147483647 : Int64))), .second, lv (((fMax ((p1.toInt64) &&& (2147483647 : Int64)) ((p2.toInt64) &&& (2147483647 : Int64))) * (((k.toInt64) + (3 : Int64)) + (1 : Int64))) - (fMin ((p1.toInt64) &&& (2147483647 : Int64)) ((p2.toInt64) &&& (2147483647 : Int64)))), .second] [(.int (1 : Int32))] _
            refine own_go (fun t₀ k₀ => XS.goto X56.here hx rfl (pc0 := 214) (pc' := 218) rfl (Jvm.hb hby at_214) (by decide) (by decide) k₀) ?_
            show Gm p e below T56 m 218 #[iv p0, iv p1, iv p2, iv p3, iv k, iv b2, rv r12, lv ((k.toInt64) + (3 : Int64)), .second, lv ((p1.toInt64) &&& (2147483647 : Int64)), .second, lv ((p2.toInt64) &&& (2147483647 : Int64)), .second, lv (fMin ((p1.toInt64) &&& (2147483647 : Int64)) ((p2.toInt64) &&& (2147483647 : Int64))), .second, iv b53, lv (fMax ((p1.toInt64) &&& (2147483647 : Int64)) ((p2.toInt64) &&& (2147483647 : Int64))), .second, lv (((fMax ((p1.toInt64) &&& (2147483647 : Int64)) ((p2.toInt64) &&& (2147483647 : Int64))) * (((k.toInt64) + (3 : Int64)) + (1 : Int64))) - (fMin ((p1.toInt64) &&& (2147483647 : Int64)) ((p2.toInt64) &&& (2147483647 : Int64)))), .second] [(.int (1 : Int32))] _
            exact own_retI X56 hx hlk (t := .boolean) Bd.returns rfl (by simp) (Jvm.hb hby at_218) e56 ⟨rfl, N56⟩ (by decide) (by decide)
          · have hfork := trivial
            refine own_go (fun t₀ k₀ => XS.ifNo X52.here hx rfl (Jvm.hb hby at_149) rfl (XT.i0_eq_f c54) k₀) ?_
            show Gm p e below T52 m 152 #[iv p0, iv p1, iv p2, iv p3, iv k, iv b2, rv r12, lv ((k.toInt64) + (3 : Int64)), .second, lv ((p1.toInt64) &&& (2147483647 : Int64)), .second, lv ((p2.toInt64) &&& (2147483647 : Int64)), .second, lv (fMin ((p1.toInt64) &&& (2147483647 : Int64)) ((p2.toInt64) &&& (2147483647 : Int64))), .second, iv b53, .unset, .unset, .unset, .unset] [] _
            refine own_go (fun t₀ k₀ => X52.ldc2J hx hown (mvT hZ (hw _ (List.mem_of_getElem? (i := 20) rfl))) rfl (Jvm.hb hby at_152) k₀) ?_
            show Gm p e below T52 m 155 #[iv p0, iv p1, iv p2, iv p3, iv k, iv b2, rv r12, lv ((k.toInt64) + (3 : Int64)), .second, lv ((p1.toInt64) &&& (2147483647 : Int64)), .second, lv ((p2.toInt64) &&& (2147483647 : Int64)), .second, lv (fMin ((p1.toInt64) &&& (2147483647 : Int64)) ((p2.toInt64) &&& (2147483647 : Int64))), .second, iv b53, .unset, .unset, .unset, .unset] [(.long (-1 : Int64))] _
            refine own_go (fun t₀ k₀ => XS.goto X52.here hx rfl (pc0 := 155) (pc' := 165) rfl (Jvm.hb hby at_155) (by decide) (by decide) k₀) ?_
            show Gm p e below T52 m 165 #[iv p0, iv p1, iv p2, iv p3, iv k, iv b2, rv r12, lv ((k.toInt64) + (3 : Int64)), .second, lv ((p1.toInt64) &&& (2147483647 : Int64)), .second, lv ((p2.toInt64) &&& (2147483647 : Int64)), .second, lv (fMin ((p1.toInt64) &&& (2147483647 : Int64)) ((p2.toInt64) &&& (2147483647 : Int64))), .second, iv b53, .unset, .unset, .unset, .unset] [(.long (-1 : Int64))] _
            refine own_go (fun t₀ k₀ => XS.lstore X52.here hx rfl (Jvm.hb hby at_165) rfl (l' := #[iv p0, iv p1, iv p2, iv p3, iv k, iv b2, rv r12, lv ((k.toInt64) + (3 : Int64)), .second, lv ((p1.toInt64) &&& (2147483647 : Int64)), .second, lv ((p2.toInt64) &&& (2147483647 : Int64)), .second, lv (fMin ((p1.toInt64) &&& (2147483647 : Int64)) ((p2.toInt64) &&& (2147483647 : Int64))), .second, iv b53, lv (-1 : Int64), .second, .unset, .unset]) rfl k₀) ?_
            show Gm p e below T52 m 167 #[iv p0, iv p1, iv p2, iv p3, iv k, iv b2, rv r12, lv ((k.toInt64) + (3 : Int64)), .second, lv ((p1.toInt64) &&& (2147483647 : Int64)), .second, lv ((p2.toInt64) &&& (2147483647 : Int64)), .second, lv (fMin ((p1.toInt64) &&& (2147483647 : Int64)) ((p2.toInt64) &&& (2147483647 : Int64))), .second, iv b53, lv (-1 : Int64), .second, .unset, .unset] [] _
            refine own_go (fun t₀ k₀ => XS.iload X52.here hx rfl (Jvm.hb hby at_167) rfl k₀) ?_
            show Gm p e below T52 m 169 #[iv p0, iv p1, iv p2, iv p3, iv k, iv b2, rv r12, lv ((k.toInt64) + (3 : Int64)), .second, lv ((p1.toInt64) &&& (2147483647 : Int64)), .second, lv ((p2.toInt64) &&& (2147483647 : Int64)), .second, lv (fMin ((p1.toInt64) &&& (2147483647 : Int64)) ((p2.toInt64) &&& (2147483647 : Int64))), .second, iv b53, lv (-1 : Int64), .second, .unset, .unset] [(.int b53)] _
            refine own_go (fun t₀ k₀ => XS.ifNo X52.here hx rfl (Jvm.hb hby at_169) rfl (XT.i0_eq_f c54) k₀) ?_
            show Gm p e below T52 m 172 #[iv p0, iv p1, iv p2, iv p3, iv k, iv b2, rv r12, lv ((k.toInt64) + (3 : Int64)), .second, lv ((p1.toInt64) &&& (2147483647 : Int64)), .second, lv ((p2.toInt64) &&& (2147483647 : Int64)), .second, lv (fMin ((p1.toInt64) &&& (2147483647 : Int64)) ((p2.toInt64) &&& (2147483647 : Int64))), .second, iv b53, lv (-1 : Int64), .second, .unset, .unset] [] _
            refine own_go (fun t₀ k₀ => XS.lload X52.here hx rfl (Jvm.hb hby at_172) rfl k₀) ?_
            show Gm p e below T52 m 174 #[iv p0, iv p1, iv p2, iv p3, iv k, iv b2, rv r12, lv ((k.toInt64) + (3 : Int64)), .second, lv ((p1.toInt64) &&& (2147483647 : Int64)), .second, lv ((p2.toInt64) &&& (2147483647 : Int64)), .second, lv (fMin ((p1.toInt64) &&& (2147483647 : Int64)) ((p2.toInt64) &&& (2147483647 : Int64))), .second, iv b53, lv (-1 : Int64), .second, .unset, .unset] [(.long (fMin ((p1.toInt64) &&& (2147483647 : Int64)) ((p2.toInt64) &&& (2147483647 : Int64))))] _
            refine own_go (fun t₀ k₀ => XS.lconst X52.here hx rfl (Jvm.hb hby at_174) k₀) ?_
            show Gm p e below T52 m 175 #[iv p0, iv p1, iv p2, iv p3, iv k, iv b2, rv r12, lv ((k.toInt64) + (3 : Int64)), .second, lv ((p1.toInt64) &&& (2147483647 : Int64)), .second, lv ((p2.toInt64) &&& (2147483647 : Int64)), .second, lv (fMin ((p1.toInt64) &&& (2147483647 : Int64)) ((p2.toInt64) &&& (2147483647 : Int64))), .second, iv b53, lv (-1 : Int64), .second, .unset, .unset] [(.long (1 : Int64)), (.long (fMin ((p1.toInt64) &&& (2147483647 : Int64)) ((p2.toInt64) &&& (2147483647 : Int64))))] _
            refine own_go (fun t₀ k₀ => XS.ladd X52.here hx rfl (Jvm.hb hby at_175) rfl k₀) ?_
            show Gm p e below T52 m 176 #[iv p0, iv p1, iv p2, iv p3, iv k, iv b2, rv r12, lv ((k.toInt64) + (3 : Int64)), .second, lv ((p1.toInt64) &&& (2147483647 : Int64)), .second, lv ((p2.toInt64) &&& (2147483647 : Int64)), .second, lv (fMin ((p1.toInt64) &&& (2147483647 : Int64)) ((p2.toInt64) &&& (2147483647 : Int64))), .second, iv b53, lv (-1 : Int64), .second, .unset, .unset] [(.long ((fMin ((p1.toInt64) &&& (2147483647 : Int64)) ((p2.toInt64) &&& (2147483647 : Int64))) + (1 : Int64)))] _
            refine own_go (fun t₀ k₀ => XS.lload X52.here hx rfl (Jvm.hb hby at_176) rfl k₀) ?_
            show Gm p e below T52 m 178 #[iv p0, iv p1, iv p2, iv p3, iv k, iv b2, rv r12, lv ((k.toInt64) + (3 : Int64)), .second, lv ((p1.toInt64) &&& (2147483647 : Int64)), .second, lv ((p2.toInt64) &&& (2147483647 : Int64)), .second, lv (fMin ((p1.toInt64) &&& (2147483647 : Int64)) ((p2.toInt64) &&& (2147483647 : Int64))), .second, iv b53, lv (-1 : Int64), .second, .unset, .unset] [(.long ((k.toInt64) + (3 : Int64))), (.long ((fMin ((p1.toInt64) &&& (2147483647 : Int64)) ((p2.toInt64) &&& (2147483647 : Int64))) + (1 : Int64)))] _
            refine own_go (fun t₀ k₀ => XS.lmul X52.here hx rfl (Jvm.hb hby at_178) rfl k₀) ?_
            show Gm p e below T52 m 179 #[iv p0, iv p1, iv p2, iv p3, iv k, iv b2, rv r12, lv ((k.toInt64) + (3 : Int64)), .second, lv ((p1.toInt64) &&& (2147483647 : Int64)), .second, lv ((p2.toInt64) &&& (2147483647 : Int64)), .second, lv (fMin ((p1.toInt64) &&& (2147483647 : Int64)) ((p2.toInt64) &&& (2147483647 : Int64))), .second, iv b53, lv (-1 : Int64), .second, .unset, .unset] [(.long (((fMin ((p1.toInt64) &&& (2147483647 : Int64)) ((p2.toInt64) &&& (2147483647 : Int64))) + (1 : Int64)) * ((k.toInt64) + (3 : Int64))))] _
            refine own_go (fun t₀ k₀ => X52.ldc2J hx hown (mvT hZ (hw _ (List.mem_of_getElem? (i := 21) rfl))) rfl (Jvm.hb hby at_179) k₀) ?_
            show Gm p e below T52 m 182 #[iv p0, iv p1, iv p2, iv p3, iv k, iv b2, rv r12, lv ((k.toInt64) + (3 : Int64)), .second, lv ((p1.toInt64) &&& (2147483647 : Int64)), .second, lv ((p2.toInt64) &&& (2147483647 : Int64)), .second, lv (fMin ((p1.toInt64) &&& (2147483647 : Int64)) ((p2.toInt64) &&& (2147483647 : Int64))), .second, iv b53, lv (-1 : Int64), .second, .unset, .unset] [(.long (2 : Int64)), (.long (((fMin ((p1.toInt64) &&& (2147483647 : Int64)) ((p2.toInt64) &&& (2147483647 : Int64))) + (1 : Int64)) * ((k.toInt64) + (3 : Int64))))] _
            refine own_go (fun t₀ k₀ => XS.ladd X52.here hx rfl (Jvm.hb hby at_182) rfl k₀) ?_
            show Gm p e below T52 m 183 #[iv p0, iv p1, iv p2, iv p3, iv k, iv b2, rv r12, lv ((k.toInt64) + (3 : Int64)), .second, lv ((p1.toInt64) &&& (2147483647 : Int64)), .second, lv ((p2.toInt64) &&& (2147483647 : Int64)), .second, lv (fMin ((p1.toInt64) &&& (2147483647 : Int64)) ((p2.toInt64) &&& (2147483647 : Int64))), .second, iv b53, lv (-1 : Int64), .second, .unset, .unset] [(.long ((((fMin ((p1.toInt64) &&& (2147483647 : Int64)) ((p2.toInt64) &&& (2147483647 : Int64))) + (1 : Int64)) * ((k.toInt64) + (3 : Int64))) + (2 : Int64)))] _
            refine own_go (fun t₀ k₀ => XS.goto X52.here hx rfl (pc0 := 183) (pc' := 196) rfl (Jvm.hb hby at_183) (by decide) (by decide) k₀) ?_
            show Gm p e below T52 m 196 #[iv p0, iv p1, iv p2, iv p3, iv k, iv b2, rv r12, lv ((k.toInt64) + (3 : Int64)), .second, lv ((p1.toInt64) &&& (2147483647 : Int64)), .second, lv ((p2.toInt64) &&& (2147483647 : Int64)), .second, lv (fMin ((p1.toInt64) &&& (2147483647 : Int64)) ((p2.toInt64) &&& (2147483647 : Int64))), .second, iv b53, lv (-1 : Int64), .second, .unset, .unset] [(.long ((((fMin ((p1.toInt64) &&& (2147483647 : Int64)) ((p2.toInt64) &&& (2147483647 : Int64))) + (1 : Int64)) * ((k.toInt64) + (3 : Int64))) + (2 : Int64)))] _
            refine own_go (fun t₀ k₀ => XS.lstore X52.here hx rfl (Jvm.hb hby at_196) rfl (l' := #[iv p0, iv p1, iv p2, iv p3, iv k, iv b2, rv r12, lv ((k.toInt64) + (3 : Int64)), .second, lv ((p1.toInt64) &&& (2147483647 : Int64)), .second, lv ((p2.toInt64) &&& (2147483647 : Int64)), .second, lv (fMin ((p1.toInt64) &&& (2147483647 : Int64)) ((p2.toInt64) &&& (2147483647 : Int64))), .second, iv b53, lv (-1 : Int64), .second, lv ((((fMin ((p1.toInt64) &&& (2147483647 : Int64)) ((p2.toInt64) &&& (2147483647 : Int64))) + (1 : Int64)) * ((k.toInt64) + (3 : Int64))) + (2 : Int64)), .second]) rfl k₀) ?_
            show Gm p e below T52 m 198 #[iv p0, iv p1, iv p2, iv p3, iv k, iv b2, rv r12, lv ((k.toInt64) + (3 : Int64)), .second, lv ((p1.toInt64) &&& (2147483647 : Int64)), .second, lv ((p2.toInt64) &&& (2147483647 : Int64)), .second, lv (fMin ((p1.toInt64) &&& (2147483647 : Int64)) ((p2.toInt64) &&& (2147483647 : Int64))), .second, iv b53, lv (-1 : Int64), .second, lv ((((fMin ((p1.toInt64) &&& (2147483647 : Int64)) ((p2.toInt64) &&& (2147483647 : Int64))) + (1 : Int64)) * ((k.toInt64) + (3 : Int64))) + (2 : Int64)), .second] [] _
            refine own_go (fun t₀ k₀ => XS.aload X52.here hx rfl (Jvm.hb hby at_198) rfl rfl k₀) ?_
            show Gm p e below T52 m 200 #[iv p0, iv p1, iv p2, iv p3, iv k, iv b2, rv r12, lv ((k.toInt64) + (3 : Int64)), .second, lv ((p1.toInt64) &&& (2147483647 : Int64)), .second, lv ((p2.toInt64) &&& (2147483647 : Int64)), .second, lv (fMin ((p1.toInt64) &&& (2147483647 : Int64)) ((p2.toInt64) &&& (2147483647 : Int64))), .second, iv b53, lv (-1 : Int64), .second, lv ((((fMin ((p1.toInt64) &&& (2147483647 : Int64)) ((p2.toInt64) &&& (2147483647 : Int64))) + (1 : Int64)) * ((k.toInt64) + (3 : Int64))) + (2 : Int64)), .second] [(.ref r12)] _
            refine own_go (fun t₀ k₀ => XS.lload X52.here hx rfl (Jvm.hb hby at_200) rfl k₀) ?_
            show Gm p e below T52 m 202 #[iv p0, iv p1, iv p2, iv p3, iv k, iv b2, rv r12, lv ((k.toInt64) + (3 : Int64)), .second, lv ((p1.toInt64) &&& (2147483647 : Int64)), .second, lv ((p2.toInt64) &&& (2147483647 : Int64)), .second, lv (fMin ((p1.toInt64) &&& (2147483647 : Int64)) ((p2.toInt64) &&& (2147483647 : Int64))), .second, iv b53, lv (-1 : Int64), .second, lv ((((fMin ((p1.toInt64) &&& (2147483647 : Int64)) ((p2.toInt64) &&& (2147483647 : Int64))) + (1 : Int64)) * ((k.toInt64) + (3 : Int64))) + (2 : Int64)), .second] [(.long (fMin ((p1.toInt64) &&& (2147483647 : Int64)) ((p2.toInt64) &&& (2147483647 : Int64)))), (.ref r12)] _
            refine own_go (fun t₀ k₀ => XS.lload X52.here hx rfl (Jvm.hb hby at_202) rfl k₀) ?_
            show Gm p e below T52 m 204 #[iv p0, iv p1, iv p2, iv p3, iv k, iv b2, rv r12, lv ((k.toInt64) + (3 : Int64)), .second, lv ((p1.toInt64) &&& (2147483647 : Int64)), .second, lv ((p2.toInt64) &&& (2147483647 : Int64)), .second, lv (fMin ((p1.toInt64) &&& (2147483647 : Int64)) ((p2.toInt64) &&& (2147483647 : Int64))), .second, iv b53, lv (-1 : Int64), .second, lv ((((fMin ((p1.toInt64) &&& (2147483647 : Int64)) ((p2.toInt64) &&& (2147483647 : Int64))) + (1 : Int64)) * ((k.toInt64) + (3 : Int64))) + (2 : Int64)), .second] [(.long (-1 : Int64)), (.long (fMin ((p1.toInt64) &&& (2147483647 : Int64)) ((p2.toInt64) &&& (2147483647 : Int64)))), (.ref r12)] _
            obtain ⟨cq57, kq57, q57a, q57b, q57c⟩ := isOf hZ e52 Ec43
            obtain ⟨_, _, ⟨T57, L57, k57, n57⟩, -, X57, ⟨Lc57, hQ57, l57, y57, z57⟩, st57⟩ := X52.virtualBack hx (y := (⟨"com/example/data_in_bounds/datainbounds/metapath/RegexProgram$Fragment", "repeatedLength", "(JJ)J"⟩ : MethodName)) (z := (⟨"com/example/data_in_bounds/datainbounds/metapath/RegexProgram$Fragment", "repeatedLength", "(JJ)J"⟩ : MethodName)) hown (mvT hZ (hw _ (List.mem_of_getElem? (i := 22) rfl))) (mvT hZ (hw _ (List.mem_of_getElem? (i := 23) rfl))) (notFace_of_selects (args := #[]) (mvT hZ (hw _ (List.mem_of_getElem? (i := 25) rfl)))) (mvT hZ (hw _ (List.mem_of_getElem? (i := 25) rfl))) (mvT hZ (hw _ (List.mem_of_getElem? (i := 24) rfl))) (by decide) (backOf (W := 0) (rm4 l Z a0 hw [] r12 (fMin ((p1.toInt64) &&& (2147483647 : Int64)) ((p2.toInt64) &&& (2147483647 : Int64))) (-1 : Int64) (2 : Int32) (b2 &&& (1 : Int32)) T43.heap n0 Z43 Flen43 Fnul43) hZ (hw _ (List.mem_of_getElem? (i := 26) rfl)) (hw _ (List.mem_of_getElem? (i := 2) rfl)) (by decide) (by decide)) q57a q57c (g := (mkF m 204 #[iv p0, iv p1, iv p2, iv p3, iv k, iv b2, rv r12, lv ((k.toInt64) + (3 : Int64)), .second, lv ((p1.toInt64) &&& (2147483647 : Int64)), .second, lv ((p2.toInt64) &&& (2147483647 : Int64)), .second, lv (fMin ((p1.toInt64) &&& (2147483647 : Int64)) ((p2.toInt64) &&& (2147483647 : Int64))), .second, iv b53, lv (-1 : Int64), .second, lv ((((fMin ((p1.toInt64) &&& (2147483647 : Int64)) ((p2.toInt64) &&& (2147483647 : Int64))) + (1 : Int64)) * ((k.toInt64) + (3 : Int64))) + (2 : Int64)), .second] [(.long (-1 : Int64)), (.long (fMin ((p1.toInt64) &&& (2147483647 : Int64)) ((p2.toInt64) &&& (2147483647 : Int64)))), (.ref r12)])) rfl (by rw [hml]; rfl) (Steps.refl _) (argsL := [(.long (fMin ((p1.toInt64) &&& (2147483647 : Int64)) ((p2.toInt64) &&& (2147483647 : Int64)))), (.long (-1 : Int64))]) (rest := []) (lenOf own_pd4 rfl) rfl (by show 2 * 0 + _ ≤ _; exact Nat.le_of_eq rfl) (Jvm.hb hby at_204) (fun _ _ => ⟨rfl, e52, (by decide : 4 + 0 ≤ _), (by decide : 24 + 0 ≤ _)⟩)
            dsimp only [Pt.U, Pt.locs, Pt.cells, Pt.slots] at X57 l57 y57 z57 st57 hQ57
            subst l57 y57 z57
            obtain ⟨rfl, Nq57, eq57⟩ := hQ57
            have N57 := Fr.app N52 Nq57
            have e57 : T57.heap = T43.heap := eq57
            refine own_go (fun t k => st57.trans k) ?_
            show Gm p e below T57 m 207 #[iv p0, iv p1, iv p2, iv p3, iv k, iv b2, rv r12, lv ((k.toInt64) + (3 : Int64)), .second, lv ((p1.toInt64) &&& (2147483647 : Int64)), .second, lv ((p2.toInt64) &&& (2147483647 : Int64)), .second, lv (fMin ((p1.toInt64) &&& (2147483647 : Int64)) ((p2.toInt64) &&& (2147483647 : Int64))), .second, iv b53, lv (-1 : Int64), .second, lv ((((fMin ((p1.toInt64) &&& (2147483647 : Int64)) ((p2.toInt64) &&& (2147483647 : Int64))) + (1 : Int64)) * ((k.toInt64) + (3 : Int64))) + (2 : Int64)), .second] [(.long (fR (fMin ((p1.toInt64) &&& (2147483647 : Int64)) ((p2.toInt64) &&& (2147483647 : Int64))) (-1 : Int64) (2 : Int32) (b2 &&& (1 : Int32))))] _
            refine own_go (fun t₀ k₀ => XS.lload X57.here hx rfl (Jvm.hb hby at_207) rfl k₀) ?_
            show Gm p e below T57 m 209 #[iv p0, iv p1, iv p2, iv p3, iv k, iv b2, rv r12, lv ((k.toInt64) + (3 : Int64)), .second, lv ((p1.toInt64) &&& (2147483647 : Int64)), .second, lv ((p2.toInt64) &&& (2147483647 : Int64)), .second, lv (fMin ((p1.toInt64) &&& (2147483647 : Int64)) ((p2.toInt64) &&& (2147483647 : Int64))), .second, iv b53, lv (-1 : Int64), .second, lv ((((fMin ((p1.toInt64) &&& (2147483647 : Int64)) ((p2.toInt64) &&& (2147483647 : Int64))) + (1 : Int64)) * ((k.toInt64) + (3 : Int64))) + (2 : Int64)), .second] [(.long ((((fMin ((p1.toInt64) &&& (2147483647 : Int64)) ((p2.toInt64) &&& (2147483647 : Int64))) + (1 : Int64)) * ((k.toInt64) + (3 : Int64))) + (2 : Int64))), (.long (fR (fMin ((p1.toInt64) &&& (2147483647 : Int64)) ((p2.toInt64) &&& (2147483647 : Int64))) (-1 : Int64) (2 : Int32) (b2 &&& (1 : Int32))))] _
            refine own_go (fun t₀ k₀ => XT.lcmp X57.here hx rfl (Jvm.hb hby at_209) rfl k₀) ?_
            show Gm p e below T57 m 210 #[iv p0, iv p1, iv p2, iv p3, iv k, iv b2, rv r12, lv ((k.toInt64) + (3 : Int64)), .second, lv ((p1.toInt64) &&& (2147483647 : Int64)), .second, lv ((p2.toInt64) &&& (2147483647 : Int64)), .second, lv (fMin ((p1.toInt64) &&& (2147483647 : Int64)) ((p2.toInt64) &&& (2147483647 : Int64))), .second, iv b53, lv (-1 : Int64), .second, lv ((((fMin ((p1.toInt64) &&& (2147483647 : Int64)) ((p2.toInt64) &&& (2147483647 : Int64))) + (1 : Int64)) * ((k.toInt64) + (3 : Int64))) + (2 : Int64)), .second] [(.int (XT.cmpL (fR (fMin ((p1.toInt64) &&& (2147483647 : Int64)) ((p2.toInt64) &&& (2147483647 : Int64))) (-1 : Int64) (2 : Int32) (b2 &&& (1 : Int32))) ((((fMin ((p1.toInt64) &&& (2147483647 : Int64)) ((p2.toInt64) &&& (2147483647 : Int64))) + (1 : Int64)) * ((k.toInt64) + (3 : Int64))) + (2 : Int64))))] _
            refine own_go (fun t₀ k₀ => XS.ifNo X57.here hx rfl (Jvm.hb hby at_210) rfl (XT.ll_ne_f (own_fin _ _ _ _ ((k.toInt64) + (3 : Int64)) _ (by rw [hk, if_neg (own_nz hb2 c45)]; decide) (by rw [if_pos (by decide)]; try rfl))) k₀) ?_
            show Gm p e below T57 m 213 #[iv p0, iv p1, iv p2, iv p3, iv k, iv b2, rv r12, lv ((k.toInt64) + (3 : Int64)), .second, lv ((p1.toInt64) &&& (2147483647 : Int64)), .second, lv ((p2.toInt64) &&& (2147483647 : Int64)), .second, lv (fMin ((p1.toInt64) &&& (2147483647 : Int64)) ((p2.toInt64) &&& (2147483647 : Int64))), .second, iv b53, lv (-1 : Int64), .second, lv ((((fMin ((p1.toInt64) &&& (2147483647 : Int64)) ((p2.toInt64) &&& (2147483647 : Int64))) + (1 : Int64)) * ((k.toInt64) + (3 : Int64))) + (2 : Int64)), .second] [] _
            refine own_go (fun t₀ k₀ => XS.iconst X57.here hx rfl (Jvm.hb hby at_213) k₀) ?_
            show Gm p e below T57 m 214 #[iv p0, iv p1, iv p2, iv p3, iv k, iv b2, rv r12, lv ((k.toInt64) + (3 : Int64)), .second, lv ((p1.toInt64) &&& (2147483647 : Int64)), .second, lv ((p2.toInt64) &&& (2147483647 : Int64)), .second, lv (fMin ((p1.toInt64) &&& (2147483647 : Int64)) ((p2.toInt64) &&& (2147483647 : Int64))), .second, iv b53, lv (-1 : Int64), .second, lv ((((fMin ((p1.toInt64) &&& (2147483647 : Int64)) ((p2.toInt64) &&& (2147483647 : Int64))) + (1 : Int64)) * ((k.toInt64) + (3 : Int64))) + (2 : Int64)), .second] [(.int (1 : Int32))] _
            refine own_go (fun t₀ k₀ => XS.goto X57.here hx rfl (pc0 := 214) (pc' := 218) rfl (Jvm.hb hby at_214) (by decide) (by decide) k₀) ?_
            show Gm p e below T57 m 218 #[iv p0, iv p1, iv p2, iv p3, iv k, iv b2, rv r12, lv ((k.toInt64) + (3 : Int64)), .second, lv ((p1.toInt64) &&& (2147483647 : Int64)), .second, lv ((p2.toInt64) &&& (2147483647 : Int64)), .second, lv (fMin ((p1.toInt64) &&& (2147483647 : Int64)) ((p2.toInt64) &&& (2147483647 : Int64))), .second, iv b53, lv (-1 : Int64), .second, lv ((((fMin ((p1.toInt64) &&& (2147483647 : Int64)) ((p2.toInt64) &&& (2147483647 : Int64))) + (1 : Int64)) * ((k.toInt64) + (3 : Int64))) + (2 : Int64)), .second] [(.int (1 : Int32))] _
            exact own_retI X57 hx hlk (t := .boolean) Bd.returns rfl (by simp) (Jvm.hb hby at_218) e57 ⟨rfl, N57⟩ (by decide) (by decide)
      · have hfork := trivial
        refine own_go (fun t₀ k₀ => XS.icmpNo X43.here hx rfl (Jvm.hb hby at_65) rfl (XT.ii_lt_f c44) k₀) ?_
        show Gm p e below T43 m 68 #[iv p0, iv p1, iv p2, iv p3, iv k, iv b2, rv r12, .unset, .unset, .unset, .unset, .unset, .unset, .unset, .unset, .unset, .unset, .unset, .unset, .unset] [] _
        refine own_go (fun t₀ k₀ => XS.aload X43.here hx rfl (Jvm.hb hby at_68) rfl rfl k₀) ?_
        show Gm p e below T43 m 70 #[iv p0, iv p1, iv p2, iv p3, iv k, iv b2, rv r12, .unset, .unset, .unset, .unset, .unset, .unset, .unset, .unset, .unset, .unset, .unset, .unset, .unset] [(.ref r12)] _
        refine own_go (fun t₀ k₀ => XS.iconst X43.here hx rfl (Jvm.hb hby at_70) k₀) ?_
        show Gm p e below T43 m 71 #[iv p0, iv p1, iv p2, iv p3, iv k, iv b2, rv r12, .unset, .unset, .unset, .unset, .unset, .unset, .unset, .unset, .unset, .unset, .unset, .unset, .unset] [(.int (0 : Int32)), (.ref r12)] _
        refine own_go (fun t₀ k₀ => XS.iconst X43.here hx rfl (Jvm.hb hby at_71) k₀) ?_
        show Gm p e below T43 m 72 #[iv p0, iv p1, iv p2, iv p3, iv k, iv b2, rv r12, .unset, .unset, .unset, .unset, .unset, .unset, .unset, .unset, .unset, .unset, .unset, .unset, .unset] [(.int (0 : Int32)), (.int (0 : Int32)), (.ref r12)] _
        refine own_go (fun t₀ k₀ => XS.iconst X43.here hx rfl (Jvm.hb hby at_72) k₀) ?_
        show Gm p e below T43 m 73 #[iv p0, iv p1, iv p2, iv p3, iv k, iv b2, rv r12, .unset, .unset, .unset, .unset, .unset, .unset, .unset, .unset, .unset, .unset, .unset, .unset, .unset] [(.int (1 : Int32)), (.int (0 : Int32)), (.int (0 : Int32)), (.ref r12)] _
        have f58 := (Ec36.keep Kc43)
        have f59 := (Ac36.keep Kc43 (ninS (Ne.symm ne_r12_c36) (ninS (Ne.symm ne_c12_c36) nin0)))
        obtain ⟨_, _, ⟨T60, L60, k60, n60⟩, -, X60, ⟨Lc60, hQ60, l60, y60, z60⟩, st60⟩ := Jvm.LawKit.callS X43 hx (y := (⟨"com/example/data_in_bounds/datainbounds/metapath/RegexProgram$Fragment", "of", "(IIZ)Lcom/example/data_in_bounds/datainbounds/metapath/RegexProgram$Fragment;"⟩ : MethodName)) hown (mvT hZ (hw _ (List.mem_of_getElem? (i := 33) rfl))) (mvT hZ (hw _ (List.mem_of_getElem? (i := 34) rfl))) (mvT hZ (hw _ (List.mem_of_getElem? (i := 2) rfl))) (mvT hZ (hw _ (List.mem_of_getElem? (i := 35) rfl))) (by decide) (backOf (W := 1) (rm6 l Z a0 hw [] (0 : Int32) (0 : Int32) (1 : Int32) T43.heap n0 Z43 (Or.inr rfl)) hZ (hw _ (List.mem_of_getElem? (i := 35) rfl)) (hw _ (List.mem_of_getElem? (i := 2) rfl)) (by decide) (by decide)) (g := (mkF m 73 #[iv p0, iv p1, iv p2, iv p3, iv k, iv b2, rv r12, .unset, .unset, .unset, .unset, .unset, .unset, .unset, .unset, .unset, .unset, .unset, .unset, .unset] [(.int (1 : Int32)), (.int (0 : Int32)), (.int (0 : Int32)), (.ref r12)])) rfl (by rw [hml]; rfl) (argsL := [(.int (0 : Int32)), (.int (0 : Int32)), (.int (1 : Int32))]) (rest := [(.ref r12)]) (lenOf own_pd5 rfl) rfl (by show 2 * 0 + _ ≤ _; exact Nat.le_of_eq rfl) (Jvm.hb hby at_73) (fun _ _ => ⟨rfl, rfl, (by decide : 4 + 2 ≤ _), (by decide : 24 + 12 ≤ _)⟩)
        dsimp only [Pt.U, Pt.locs, Pt.cells, Pt.slots] at X60 l60 y60 z60 st60 hQ60
        subst l60 y60 z60
        obtain ⟨r60, c60, f60, rfl, Nq60, Kc60, hr60, hc60, nrc60, Ec60, Fcode60, Flen60, Fnul60, Fhei60, Ac60⟩ := hQ60
        have N60 := Fr.app N43 Nq60
        refine own_go st60 ?_
        have ne_r12_r60 : r12 ≠ r60 := Nat.ne_of_lt (Nat.lt_of_lt_of_le Ec43.lt hr60)
        have ne_r12_c60 : r12 ≠ c60 := Nat.ne_of_lt (Nat.lt_of_lt_of_le Ec43.lt hc60)
        have ne_r36_r60 : r36 ≠ r60 := Nat.ne_of_lt (Nat.lt_of_lt_of_le f58.lt hr60)
        have ne_r36_c60 : r36 ≠ c60 := Nat.ne_of_lt (Nat.lt_of_lt_of_le f58.lt hc60)
        have ne_c36_r60 : c36 ≠ r60 := Nat.ne_of_lt (Nat.lt_of_lt_of_le f59.lt hr60)
        have ne_c36_c60 : c36 ≠ c60 := Nat.ne_of_lt (Nat.lt_of_lt_of_le f59.lt hc60)
        have ne_c12_r60 : c12 ≠ r60 := Nat.ne_of_lt (Nat.lt_of_lt_of_le Ac43.lt hr60)
        have ne_c12_c60 : c12 ≠ c60 := Nat.ne_of_lt (Nat.lt_of_lt_of_le Ac43.lt hc60)
        have g_r60 : n0 ≤ r60 := Nat.le_trans Z43 hr60
        have g_c60 : n0 ≤ c60 := Nat.le_trans Z43 hc60
        have Z60 : n0 ≤ T60.heap.size := Nat.le_trans Z43 Kc60.1
        show Gm p e below T60 m 76 #[iv p0, iv p1, iv p2, iv p3, iv k, iv b2, rv r12, .unset, .unset, .unset, .unset, .unset, .unset, .unset, .unset, .unset, .unset, .unset, .unset, .unset] [(.ref r60), (.ref r12)] _
        have f61 := (Fcode43.keep Kc60 nin0)
        have f62 := (Flen43.keep Kc60 nin0)
        have f63 := (Fnul43.keep Kc60 nin0)
        have f64 := (Fhei43.keep Kc60 nin0)
        have f65 := (Ac43.keep Kc60 nin0)
        have f66 := (Ec43.keep Kc60)
        obtain ⟨cq67, kq67, q67a, q67b, q67c⟩ := isOf hZ rfl f66
        obtain ⟨_, _, ⟨T67, L67, k67, n67⟩, -, X67, ⟨Lc67, hQ67, l67, y67, z67⟩, st67⟩ := X60.virtualBack hx (y := (⟨"com/example/data_in_bounds/datainbounds/metapath/RegexProgram$Fragment", "append", "(Lcom/example/data_in_bounds/datainbounds/metapath/RegexProgram$Fragment;)Lcom/example/data_in_bounds/datainbounds/metapath/RegexProgram$Fragment;"⟩ : MethodName)) (z := (⟨"com/example/data_in_bounds/datainbounds/metapath/RegexProgram$Fragment", "append", "(Lcom/example/data_in_bounds/datainbounds/metapath/RegexProgram$Fragment;)Lcom/example/data_in_bounds/datainbounds/metapath/RegexProgram$Fragment;"⟩ : MethodName)) hown (mvT hZ (hw _ (List.mem_of_getElem? (i := 46) rfl))) (mvT hZ (hw _ (List.mem_of_getElem? (i := 47) rfl))) (notFace_of_selects (args := #[]) (mvT hZ (hw _ (List.mem_of_getElem? (i := 49) rfl)))) (mvT hZ (hw _ (List.mem_of_getElem? (i := 49) rfl))) (mvT hZ (hw _ (List.mem_of_getElem? (i := 48) rfl))) (by decide) (backOf (W := 0) (rm9 l Z a0 hw [] r12 r60 c12 c60 (2 : Int32) (b2 &&& (1 : Int32)) (1 : Int32) f43 f60 T60.heap n0 Z60 f66 f61 f62 f63 f64 f65 Ec60 Fcode60 Flen60 Fnul60 Fhei60 Ac60 ne_r12_r60 nrc12 ne_r12_c60 (Ne.symm ne_c12_r60) (Ne.symm ne_c12_c60) g_r12 g_c12 (by decide) (by decide) (by decide) (by rw [hb2]; split <;> decide) (Or.inr rfl)) hZ (hw _ (List.mem_of_getElem? (i := 50) rfl)) (hw _ (List.mem_of_getElem? (i := 2) rfl)) (by decide) (by decide)) q67a q67c (g := (mkF m 76 #[iv p0, iv p1, iv p2, iv p3, iv k, iv b2, rv r12, .unset, .unset, .unset, .unset, .unset, .unset, .unset, .unset, .unset, .unset, .unset, .unset, .unset] [(.ref r60), (.ref r12)])) rfl (by rw [hml]; rfl) (Steps.refl _) (argsL := [(.ref r60)]) (rest := []) (lenOf own_pd6 rfl) rfl (by show 2 * 0 + _ ≤ _; exact Nat.le_of_eq rfl) (Jvm.hb hby at_76) (fun _ _ => ⟨rfl, rfl, (by decide : 6 + 0 ≤ _), (by decide : 36 + 0 ≤ _)⟩)
        dsimp only [Pt.U, Pt.locs, Pt.cells, Pt.slots] at X67 l67 y67 z67 st67 hQ67
        subst l67 y67 z67
        obtain ⟨rfl, Nq67, Kc67, Ec67, Fcode67, Flen67, Fnul67, Fhei67, f67, Ac67⟩ := hQ67
        have N67 := Fr.app N60 Nq67
        refine own_go (fun t k => st67.trans k) ?_
        have Z67 : n0 ≤ T67.heap.size := Nat.le_trans Z60 Kc67.1
        show Gm p e below T67 m 79 #[iv p0, iv p1, iv p2, iv p3, iv k, iv b2, rv r12, .unset, .unset, .unset, .unset, .unset, .unset, .unset, .unset, .unset, .unset, .unset, .unset, .unset] [(.ref r12)] _
        refine own_go (fun t₀ k₀ => XS.pop X67.here hx rfl (Jvm.hb hby at_79) rfl rfl k₀) ?_
        have hk := own_k3 _ c44 (h_k ▸ (own_kr _).2)
        show Gm p e below T67 m 80 #[iv p0, iv p1, iv p2, iv p3, iv k, iv b2, rv r12, .unset, .unset, .unset, .unset, .unset, .unset, .unset, .unset, .unset, .unset, .unset, .unset, .unset] [] _
        refine own_go (fun t₀ k₀ => XS.iload X67.here hx rfl (Jvm.hb hby at_80) rfl k₀) ?_
        show Gm p e below T67 m 82 #[iv p0, iv p1, iv p2, iv p3, iv k, iv b2, rv r12, .unset, .unset, .unset, .unset, .unset, .unset, .unset, .unset, .unset, .unset, .unset, .unset, .unset] [(.int k)] _
        refine own_go (fun t₀ k₀ => XS.ifYes X67.here hx rfl (pc0 := 82) (pc' := 91) rfl (Jvm.hb hby at_82) rfl (XT.i0_ne_t c3) (by decide) (by decide) k₀) ?_
        show Gm p e below T67 m 91 #[iv p0, iv p1, iv p2, iv p3, iv k, iv b2, rv r12, .unset, .unset, .unset, .unset, .unset, .unset, .unset, .unset, .unset, .unset, .unset, .unset, .unset] [] _
        refine own_go (fun t₀ k₀ => XS.iload X67.here hx rfl (Jvm.hb hby at_91) rfl k₀) ?_
        show Gm p e below T67 m 93 #[iv p0, iv p1, iv p2, iv p3, iv k, iv b2, rv r12, .unset, .unset, .unset, .unset, .unset, .unset, .unset, .unset, .unset, .unset, .unset, .unset, .unset] [(.int k)] _
        refine own_go (fun t₀ k₀ => XS.i2l X67.here hx rfl (Jvm.hb hby at_93) rfl k₀) ?_
        show Gm p e below T67 m 94 #[iv p0, iv p1, iv p2, iv p3, iv k, iv b2, rv r12, .unset, .unset, .unset, .unset, .unset, .unset, .unset, .unset, .unset, .unset, .unset, .unset, .unset] [(.long (k.toInt64))] _
        refine own_go (fun t₀ k₀ => XS.iload X67.here hx rfl (Jvm.hb hby at_94) rfl k₀) ?_
        show Gm p e below T67 m 96 #[iv p0, iv p1, iv p2, iv p3, iv k, iv b2, rv r12, .unset, .unset, .unset, .unset, .unset, .unset, .unset, .unset, .unset, .unset, .unset, .unset, .unset] [(.int b2), (.long (k.toInt64))] _
        by_cases c68 : b2 = (0 : Int32)
        · have hfork := trivial
          refine own_go (fun t₀ k₀ => XS.ifYes X67.here hx rfl (pc0 := 96) (pc' := 105) rfl (Jvm.hb hby at_96) rfl (XT.i0_eq_t c68) (by decide) (by decide) k₀) ?_
          show Gm p e below T67 m 105 #[iv p0, iv p1, iv p2, iv p3, iv k, iv b2, rv r12, .unset, .unset, .unset, .unset, .unset, .unset, .unset, .unset, .unset, .unset, .unset, .unset, .unset] [(.long (k.toInt64))] _
          refine own_go (fun t₀ k₀ => XS.lconst X67.here hx rfl (Jvm.hb hby at_105) k₀) ?_
          show Gm p e below T67 m 106 #[iv p0, iv p1, iv p2, iv p3, iv k, iv b2, rv r12, .unset, .unset, .unset, .unset, .unset, .unset, .unset, .unset, .unset, .unset, .unset, .unset, .unset] [(.long (0 : Int64)), (.long (k.toInt64))] _
          refine own_go (fun t₀ k₀ => XS.ladd X67.here hx rfl (Jvm.hb hby at_106) rfl k₀) ?_
          show Gm p e below T67 m 107 #[iv p0, iv p1, iv p2, iv p3, iv k, iv b2, rv r12, .unset, .unset, .unset, .unset, .unset, .unset, .unset, .unset, .unset, .unset, .unset, .unset, .unset] [(.long ((k.toInt64) + (0 : Int64)))] _
          refine own_go (fun t₀ k₀ => XS.lstore X67.here hx rfl (Jvm.hb hby at_107) rfl (l' := #[iv p0, iv p1, iv p2, iv p3, iv k, iv b2, rv r12, lv ((k.toInt64) + (0 : Int64)), .second, .unset, .unset, .unset, .unset, .unset, .unset, .unset, .unset, .unset, .unset, .unset]) rfl k₀) ?_
          show Gm p e below T67 m 109 #[iv p0, iv p1, iv p2, iv p3, iv k, iv b2, rv r12, lv ((k.toInt64) + (0 : Int64)), .second, .unset, .unset, .unset, .unset, .unset, .unset, .unset, .unset, .unset, .unset, .unset] [] _
          refine own_go (fun t₀ k₀ => XS.iloadN X67.here hx rfl (Jvm.hb hby at_109) rfl k₀) ?_
          show Gm p e below T67 m 110 #[iv p0, iv p1, iv p2, iv p3, iv k, iv b2, rv r12, lv ((k.toInt64) + (0 : Int64)), .second, .unset, .unset, .unset, .unset, .unset, .unset, .unset, .unset, .unset, .unset, .unset] [(.int p1)] _
          refine own_go (fun t₀ k₀ => XS.i2l X67.here hx rfl (Jvm.hb hby at_110) rfl k₀) ?_
          show Gm p e below T67 m 111 #[iv p0, iv p1, iv p2, iv p3, iv k, iv b2, rv r12, lv ((k.toInt64) + (0 : Int64)), .second, .unset, .unset, .unset, .unset, .unset, .unset, .unset, .unset, .unset, .unset, .unset] [(.long (p1.toInt64))] _
          refine own_go (fun t₀ k₀ => X67.ldc2J hx hown (mvT hZ (hw _ (List.mem_of_getElem? (i := 15) rfl))) rfl (Jvm.hb hby at_111) k₀) ?_
          show Gm p e below T67 m 114 #[iv p0, iv p1, iv p2, iv p3, iv k, iv b2, rv r12, lv ((k.toInt64) + (0 : Int64)), .second, .unset, .unset, .unset, .unset, .unset, .unset, .unset, .unset, .unset, .unset, .unset] [(.long (2147483647 : Int64)), (.long (p1.toInt64))] _
          refine own_go (fun t₀ k₀ => XS.land X67.here hx rfl (Jvm.hb hby at_114) rfl k₀) ?_
          show Gm p e below T67 m 115 #[iv p0, iv p1, iv p2, iv p3, iv k, iv b2, rv r12, lv ((k.toInt64) + (0 : Int64)), .second, .unset, .unset, .unset, .unset, .unset, .unset, .unset, .unset, .unset, .unset, .unset] [(.long ((p1.toInt64) &&& (2147483647 : Int64)))] _
          refine own_go (fun t₀ k₀ => XS.lstore X67.here hx rfl (Jvm.hb hby at_115) rfl (l' := #[iv p0, iv p1, iv p2, iv p3, iv k, iv b2, rv r12, lv ((k.toInt64) + (0 : Int64)), .second, lv ((p1.toInt64) &&& (2147483647 : Int64)), .second, .unset, .unset, .unset, .unset, .unset, .unset, .unset, .unset, .unset]) rfl k₀) ?_
          show Gm p e below T67 m 117 #[iv p0, iv p1, iv p2, iv p3, iv k, iv b2, rv r12, lv ((k.toInt64) + (0 : Int64)), .second, lv ((p1.toInt64) &&& (2147483647 : Int64)), .second, .unset, .unset, .unset, .unset, .unset, .unset, .unset, .unset, .unset] [] _
          refine own_go (fun t₀ k₀ => XS.iloadN X67.here hx rfl (Jvm.hb hby at_117) rfl k₀) ?_
          show Gm p e below T67 m 118 #[iv p0, iv p1, iv p2, iv p3, iv k, iv b2, rv r12, lv ((k.toInt64) + (0 : Int64)), .second, lv ((p1.toInt64) &&& (2147483647 : Int64)), .second, .unset, .unset, .unset, .unset, .unset, .unset, .unset, .unset, .unset] [(.int p2)] _
          refine own_go (fun t₀ k₀ => XS.i2l X67.here hx rfl (Jvm.hb hby at_118) rfl k₀) ?_
          show Gm p e below T67 m 119 #[iv p0, iv p1, iv p2, iv p3, iv k, iv b2, rv r12, lv ((k.toInt64) + (0 : Int64)), .second, lv ((p1.toInt64) &&& (2147483647 : Int64)), .second, .unset, .unset, .unset, .unset, .unset, .unset, .unset, .unset, .unset] [(.long (p2.toInt64))] _
          refine own_go (fun t₀ k₀ => X67.ldc2J hx hown (mvT hZ (hw _ (List.mem_of_getElem? (i := 15) rfl))) rfl (Jvm.hb hby at_119) k₀) ?_
          show Gm p e below T67 m 122 #[iv p0, iv p1, iv p2, iv p3, iv k, iv b2, rv r12, lv ((k.toInt64) + (0 : Int64)), .second, lv ((p1.toInt64) &&& (2147483647 : Int64)), .second, .unset, .unset, .unset, .unset, .unset, .unset, .unset, .unset, .unset] [(.long (2147483647 : Int64)), (.long (p2.toInt64))] _
          refine own_go (fun t₀ k₀ => XS.land X67.here hx rfl (Jvm.hb hby at_122) rfl k₀) ?_
          show Gm p e below T67 m 123 #[iv p0, iv p1, iv p2, iv p3, iv k, iv b2, rv r12, lv ((k.toInt64) + (0 : Int64)), .second, lv ((p1.toInt64) &&& (2147483647 : Int64)), .second, .unset, .unset, .unset, .unset, .unset, .unset, .unset, .unset, .unset] [(.long ((p2.toInt64) &&& (2147483647 : Int64)))] _
          refine own_go (fun t₀ k₀ => XS.lstore X67.here hx rfl (Jvm.hb hby at_123) rfl (l' := #[iv p0, iv p1, iv p2, iv p3, iv k, iv b2, rv r12, lv ((k.toInt64) + (0 : Int64)), .second, lv ((p1.toInt64) &&& (2147483647 : Int64)), .second, lv ((p2.toInt64) &&& (2147483647 : Int64)), .second, .unset, .unset, .unset, .unset, .unset, .unset, .unset]) rfl k₀) ?_
          have hp := own_p p1.toInt64
          have hq := own_p p2.toInt64
          show Gm p e below T67 m 125 #[iv p0, iv p1, iv p2, iv p3, iv k, iv b2, rv r12, lv ((k.toInt64) + (0 : Int64)), .second, lv ((p1.toInt64) &&& (2147483647 : Int64)), .second, lv ((p2.toInt64) &&& (2147483647 : Int64)), .second, .unset, .unset, .unset, .unset, .unset, .unset, .unset] [] _
          refine own_go (fun t₀ k₀ => XS.lload X67.here hx rfl (Jvm.hb hby at_125) rfl k₀) ?_
          show Gm p e below T67 m 127 #[iv p0, iv p1, iv p2, iv p3, iv k, iv b2, rv r12, lv ((k.toInt64) + (0 : Int64)), .second, lv ((p1.toInt64) &&& (2147483647 : Int64)), .second, lv ((p2.toInt64) &&& (2147483647 : Int64)), .second, .unset, .unset, .unset, .unset, .unset, .unset, .unset] [(.long ((p1.toInt64) &&& (2147483647 : Int64)))] _
          refine own_go (fun t₀ k₀ => XS.lload X67.here hx rfl (Jvm.hb hby at_127) rfl k₀) ?_
          show Gm p e below T67 m 129 #[iv p0, iv p1, iv p2, iv p3, iv k, iv b2, rv r12, lv ((k.toInt64) + (0 : Int64)), .second, lv ((p1.toInt64) &&& (2147483647 : Int64)), .second, lv ((p2.toInt64) &&& (2147483647 : Int64)), .second, .unset, .unset, .unset, .unset, .unset, .unset, .unset] [(.long ((p2.toInt64) &&& (2147483647 : Int64))), (.long ((p1.toInt64) &&& (2147483647 : Int64)))] _
          obtain ⟨_, _, ⟨T69, L69, k69, n69⟩, -, X69, ⟨Lc69, hQ69, l69, y69, z69⟩, st69⟩ := Jvm.LawKit.callS X67 hx (y := (⟨"java/lang/Math", "min", "(JJ)J"⟩ : MethodName)) hown (mvT hZ (hw _ (List.mem_of_getElem? (i := 16) rfl))) (mvT hZ (hw _ (List.mem_of_getElem? (i := 17) rfl))) (mvT hZ (hw _ (List.mem_of_getElem? (i := 18) rfl))) (mvT hZ (hw _ (List.mem_of_getElem? (i := 19) rfl))) (by decide) (backOf (W := 0) (rm3 l Z a0 hw [] ((p1.toInt64) &&& (2147483647 : Int64)) ((p2.toInt64) &&& (2147483647 : Int64)) T67.heap n0 Z67) hZ (hw _ (List.mem_of_getElem? (i := 19) rfl)) (hw _ (List.mem_of_getElem? (i := 18) rfl)) (by decide) (by decide)) (g := (mkF m 129 #[iv p0, iv p1, iv p2, iv p3, iv k, iv b2, rv r12, lv ((k.toInt64) + (0 : Int64)), .second, lv ((p1.toInt64) &&& (2147483647 : Int64)), .second, lv ((p2.toInt64) &&& (2147483647 : Int64)), .second, .unset, .unset, .unset, .unset, .unset, .unset, .unset] [(.long ((p2.toInt64) &&& (2147483647 : Int64))), (.long ((p1.toInt64) &&& (2147483647 : Int64)))])) rfl (by rw [hml]; rfl) (argsL := [(.long ((p1.toInt64) &&& (2147483647 : Int64))), (.long ((p2.toInt64) &&& (2147483647 : Int64)))]) (rest := []) (lenOf own_pd4 rfl) rfl (by show 2 * 0 + _ ≤ _; exact Nat.le_of_eq rfl) (Jvm.hb hby at_129) (fun _ _ => ⟨rfl, rfl, (by decide : 6 + 0 ≤ _), (by decide : 36 + 0 ≤ _)⟩)
          dsimp only [Pt.U, Pt.locs, Pt.cells, Pt.slots] at X69 l69 y69 z69 st69 hQ69
          subst l69 y69 z69
          obtain ⟨rfl, Nq69, eq69⟩ := hQ69
          have N69 := Fr.app N67 Nq69
          have e69 : T69.heap = T67.heap := eq69
          refine own_go st69 ?_
          show Gm p e below T69 m 132 #[iv p0, iv p1, iv p2, iv p3, iv k, iv b2, rv r12, lv ((k.toInt64) + (0 : Int64)), .second, lv ((p1.toInt64) &&& (2147483647 : Int64)), .second, lv ((p2.toInt64) &&& (2147483647 : Int64)), .second, .unset, .unset, .unset, .unset, .unset, .unset, .unset] [(.long (fMin ((p1.toInt64) &&& (2147483647 : Int64)) ((p2.toInt64) &&& (2147483647 : Int64))))] _
          refine own_go (fun t₀ k₀ => XS.lstore X69.here hx rfl (Jvm.hb hby at_132) rfl (l' := #[iv p0, iv p1, iv p2, iv p3, iv k, iv b2, rv r12, lv ((k.toInt64) + (0 : Int64)), .second, lv ((p1.toInt64) &&& (2147483647 : Int64)), .second, lv ((p2.toInt64) &&& (2147483647 : Int64)), .second, lv (fMin ((p1.toInt64) &&& (2147483647 : Int64)) ((p2.toInt64) &&& (2147483647 : Int64))), .second, .unset, .unset, .unset, .unset, .unset]) rfl k₀) ?_
          show Gm p e below T69 m 134 #[iv p0, iv p1, iv p2, iv p3, iv k, iv b2, rv r12, lv ((k.toInt64) + (0 : Int64)), .second, lv ((p1.toInt64) &&& (2147483647 : Int64)), .second, lv ((p2.toInt64) &&& (2147483647 : Int64)), .second, lv (fMin ((p1.toInt64) &&& (2147483647 : Int64)) ((p2.toInt64) &&& (2147483647 : Int64))), .second, .unset, .unset, .unset, .unset, .unset] [] _
          refine own_go (fun t₀ k₀ => XS.iloadN X69.here hx rfl (Jvm.hb hby at_134) rfl k₀) ?_
          show Gm p e below T69 m 135 #[iv p0, iv p1, iv p2, iv p3, iv k, iv b2, rv r12, lv ((k.toInt64) + (0 : Int64)), .second, lv ((p1.toInt64) &&& (2147483647 : Int64)), .second, lv ((p2.toInt64) &&& (2147483647 : Int64)), .second, lv (fMin ((p1.toInt64) &&& (2147483647 : Int64)) ((p2.toInt64) &&& (2147483647 : Int64))), .second, .unset, .unset, .unset, .unset, .unset] [(.int p3)] _
          refine own_go (fun t₀ k₀ => XS.iconst X69.here hx rfl (Jvm.hb hby at_135) k₀) ?_
          show Gm p e below T69 m 136 #[iv p0, iv p1, iv p2, iv p3, iv k, iv b2, rv r12, lv ((k.toInt64) + (0 : Int64)), .second, lv ((p1.toInt64) &&& (2147483647 : Int64)), .second, lv ((p2.toInt64) &&& (2147483647 : Int64)), .second, lv (fMin ((p1.toInt64) &&& (2147483647 : Int64)) ((p2.toInt64) &&& (2147483647 : Int64))), .second, .unset, .unset, .unset, .unset, .unset] [(.int (1 : Int32)), (.int p3)] _
          refine own_go (fun t₀ k₀ => XS.iand X69.here hx rfl (Jvm.hb hby at_136) rfl k₀) ?_
          show Gm p e below T69 m 137 #[iv p0, iv p1, iv p2, iv p3, iv k, iv b2, rv r12, lv ((k.toInt64) + (0 : Int64)), .second, lv ((p1.toInt64) &&& (2147483647 : Int64)), .second, lv ((p2.toInt64) &&& (2147483647 : Int64)), .second, lv (fMin ((p1.toInt64) &&& (2147483647 : Int64)) ((p2.toInt64) &&& (2147483647 : Int64))), .second, .unset, .unset, .unset, .unset, .unset] [(.int (p3 &&& (1 : Int32)))] _
          obtain ⟨b70, hb70, k70⟩ : ∃ z : Int32, z = (if (p3 &&& (1 : Int32)) = (0 : Int32) then (0 : Int32) else (1 : Int32)) ∧ ∀ t, Steps p.tables e below (T69.setTop (mkF m 145 #[iv p0, iv p1, iv p2, iv p3, iv k, iv b2, rv r12, lv ((k.toInt64) + (0 : Int64)), .second, lv ((p1.toInt64) &&& (2147483647 : Int64)), .second, lv ((p2.toInt64) &&& (2147483647 : Int64)), .second, lv (fMin ((p1.toInt64) &&& (2147483647 : Int64)) ((p2.toInt64) &&& (2147483647 : Int64))), .second, .unset, .unset, .unset, .unset, .unset] [(.int z)])) t → Steps p.tables e below (T69.setTop (mkF m 137 #[iv p0, iv p1, iv p2, iv p3, iv k, iv b2, rv r12, lv ((k.toInt64) + (0 : Int64)), .second, lv ((p1.toInt64) &&& (2147483647 : Int64)), .second, lv ((p2.toInt64) &&& (2147483647 : Int64)), .second, lv (fMin ((p1.toInt64) &&& (2147483647 : Int64)) ((p2.toInt64) &&& (2147483647 : Int64))), .second, .unset, .unset, .unset, .unset, .unset] [(.int (p3 &&& (1 : Int32)))])) t := by
            by_cases hq : (p3 &&& (1 : Int32)) = (0 : Int32)
            · refine ⟨(0 : Int32), by rw [if_pos hq], fun t₀ k₀ => ?_⟩
              refine XS.ifYes X69.here hx rfl (pc0 := 137) (pc' := 144) rfl (Jvm.hb hby at_137) rfl (XT.i0_eq_t hq) (by decide) (by decide) ?_
              refine XS.iconst X69.here hx rfl (Jvm.hb hby at_144) ?_
              exact k₀
            · refine ⟨(1 : Int32), by rw [if_neg hq], fun t₀ k₀ => ?_⟩
              refine XS.ifNo X69.here hx rfl (Jvm.hb hby at_137) rfl (XT.i0_eq_f hq) ?_
              refine XS.iconst X69.here hx rfl (Jvm.hb hby at_140) ?_
              refine XS.goto X69.here hx rfl (pc0 := 141) (pc' := 145) rfl (Jvm.hb hby at_141) (by decide) (by decide) ?_
              exact k₀
          refine own_go k70 ?_
          show Gm p e below T69 m 145 #[iv p0, iv p1, iv p2, iv p3, iv k, iv b2, rv r12, lv ((k.toInt64) + (0 : Int64)), .second, lv ((p1.toInt64) &&& (2147483647 : Int64)), .second, lv ((p2.toInt64) &&& (2147483647 : Int64)), .second, lv (fMin ((p1.toInt64) &&& (2147483647 : Int64)) ((p2.toInt64) &&& (2147483647 : Int64))), .second, .unset, .unset, .unset, .unset, .unset] [(.int b70)] _
          refine own_go (fun t₀ k₀ => XS.istore X69.here hx rfl (Jvm.hb hby at_145) rfl (l' := #[iv p0, iv p1, iv p2, iv p3, iv k, iv b2, rv r12, lv ((k.toInt64) + (0 : Int64)), .second, lv ((p1.toInt64) &&& (2147483647 : Int64)), .second, lv ((p2.toInt64) &&& (2147483647 : Int64)), .second, lv (fMin ((p1.toInt64) &&& (2147483647 : Int64)) ((p2.toInt64) &&& (2147483647 : Int64))), .second, iv b70, .unset, .unset, .unset, .unset]) rfl k₀) ?_
          show Gm p e below T69 m 147 #[iv p0, iv p1, iv p2, iv p3, iv k, iv b2, rv r12, lv ((k.toInt64) + (0 : Int64)), .second, lv ((p1.toInt64) &&& (2147483647 : Int64)), .second, lv ((p2.toInt64) &&& (2147483647 : Int64)), .second, lv (fMin ((p1.toInt64) &&& (2147483647 : Int64)) ((p2.toInt64) &&& (2147483647 : Int64))), .second, iv b70, .unset, .unset, .unset, .unset] [] _
          refine own_go (fun t₀ k₀ => XS.iload X69.here hx rfl (Jvm.hb hby at_147) rfl k₀) ?_
          show Gm p e below T69 m 149 #[iv p0, iv p1, iv p2, iv p3, iv k, iv b2, rv r12, lv ((k.toInt64) + (0 : Int64)), .second, lv ((p1.toInt64) &&& (2147483647 : Int64)), .second, lv ((p2.toInt64) &&& (2147483647 : Int64)), .second, lv (fMin ((p1.toInt64) &&& (2147483647 : Int64)) ((p2.toInt64) &&& (2147483647 : Int64))), .second, iv b70, .unset, .unset, .unset, .unset] [(.int b70)] _
          by_cases c71 : b70 = (0 : Int32)
          · have hfork := trivial
            refine own_go (fun t₀ k₀ => XS.ifYes X69.here hx rfl (pc0 := 149) (pc' := 158) rfl (Jvm.hb hby at_149) rfl (XT.i0_eq_t c71) (by decide) (by decide) k₀) ?_
            show Gm p e below T69 m 158 #[iv p0, iv p1, iv p2, iv p3, iv k, iv b2, rv r12, lv ((k.toInt64) + (0 : Int64)), .second, lv ((p1.toInt64) &&& (2147483647 : Int64)), .second, lv ((p2.toInt64) &&& (2147483647 : Int64)), .second, lv (fMin ((p1.toInt64) &&& (2147483647 : Int64)) ((p2.toInt64) &&& (2147483647 : Int64))), .second, iv b70, .unset, .unset, .unset, .unset] [] _
            refine own_go (fun t₀ k₀ => XS.lload X69.here hx rfl (Jvm.hb hby at_158) rfl k₀) ?_
            show Gm p e below T69 m 160 #[iv p0, iv p1, iv p2, iv p3, iv k, iv b2, rv r12, lv ((k.toInt64) + (0 : Int64)), .second, lv ((p1.toInt64) &&& (2147483647 : Int64)), .second, lv ((p2.toInt64) &&& (2147483647 : Int64)), .second, lv (fMin ((p1.toInt64) &&& (2147483647 : Int64)) ((p2.toInt64) &&& (2147483647 : Int64))), .second, iv b70, .unset, .unset, .unset, .unset] [(.long ((p1.toInt64) &&& (2147483647 : Int64)))] _
            refine own_go (fun t₀ k₀ => XS.lload X69.here hx rfl (Jvm.hb hby at_160) rfl k₀) ?_
            show Gm p e below T69 m 162 #[iv p0, iv p1, iv p2, iv p3, iv k, iv b2, rv r12, lv ((k.toInt64) + (0 : Int64)), .second, lv ((p1.toInt64) &&& (2147483647 : Int64)), .second, lv ((p2.toInt64) &&& (2147483647 : Int64)), .second, lv (fMin ((p1.toInt64) &&& (2147483647 : Int64)) ((p2.toInt64) &&& (2147483647 : Int64))), .second, iv b70, .unset, .unset, .unset, .unset] [(.long ((p2.toInt64) &&& (2147483647 : Int64))), (.long ((p1.toInt64) &&& (2147483647 : Int64)))] _
            obtain ⟨_, _, ⟨T72, L72, k72, n72⟩, -, X72, ⟨Lc72, hQ72, l72, y72, z72⟩, st72⟩ := Jvm.LawKit.callS X69 hx (y := (⟨"java/lang/Math", "max", "(JJ)J"⟩ : MethodName)) hown (mvT hZ (hw _ (List.mem_of_getElem? (i := 30) rfl))) (mvT hZ (hw _ (List.mem_of_getElem? (i := 31) rfl))) (mvT hZ (hw _ (List.mem_of_getElem? (i := 18) rfl))) (mvT hZ (hw _ (List.mem_of_getElem? (i := 32) rfl))) (by decide) (backOf (W := 0) (rm5 l Z a0 hw [] ((p1.toInt64) &&& (2147483647 : Int64)) ((p2.toInt64) &&& (2147483647 : Int64)) T67.heap n0 Z67) hZ (hw _ (List.mem_of_getElem? (i := 32) rfl)) (hw _ (List.mem_of_getElem? (i := 18) rfl)) (by decide) (by decide)) (g := (mkF m 162 #[iv p0, iv p1, iv p2, iv p3, iv k, iv b2, rv r12, lv ((k.toInt64) + (0 : Int64)), .second, lv ((p1.toInt64) &&& (2147483647 : Int64)), .second, lv ((p2.toInt64) &&& (2147483647 : Int64)), .second, lv (fMin ((p1.toInt64) &&& (2147483647 : Int64)) ((p2.toInt64) &&& (2147483647 : Int64))), .second, iv b70, .unset, .unset, .unset, .unset] [(.long ((p2.toInt64) &&& (2147483647 : Int64))), (.long ((p1.toInt64) &&& (2147483647 : Int64)))])) rfl (by rw [hml]; rfl) (argsL := [(.long ((p1.toInt64) &&& (2147483647 : Int64))), (.long ((p2.toInt64) &&& (2147483647 : Int64)))]) (rest := []) (lenOf own_pd4 rfl) rfl (by show 2 * 0 + _ ≤ _; exact Nat.le_of_eq rfl) (Jvm.hb hby at_162) (fun _ _ => ⟨rfl, e69, (by decide : 6 + 0 ≤ _), (by decide : 36 + 0 ≤ _)⟩)
            dsimp only [Pt.U, Pt.locs, Pt.cells, Pt.slots] at X72 l72 y72 z72 st72 hQ72
            subst l72 y72 z72
            obtain ⟨rfl, Nq72, eq72⟩ := hQ72
            have N72 := Fr.app N69 Nq72
            have e72 : T72.heap = T67.heap := eq72
            refine own_go st72 ?_
            show Gm p e below T72 m 165 #[iv p0, iv p1, iv p2, iv p3, iv k, iv b2, rv r12, lv ((k.toInt64) + (0 : Int64)), .second, lv ((p1.toInt64) &&& (2147483647 : Int64)), .second, lv ((p2.toInt64) &&& (2147483647 : Int64)), .second, lv (fMin ((p1.toInt64) &&& (2147483647 : Int64)) ((p2.toInt64) &&& (2147483647 : Int64))), .second, iv b70, .unset, .unset, .unset, .unset] [(.long (fMax ((p1.toInt64) &&& (2147483647 : Int64)) ((p2.toInt64) &&& (2147483647 : Int64))))] _
            refine own_go (fun t₀ k₀ => XS.lstore X72.here hx rfl (Jvm.hb hby at_165) rfl (l' := #[iv p0, iv p1, iv p2, iv p3, iv k, iv b2, rv r12, lv ((k.toInt64) + (0 : Int64)), .second, lv ((p1.toInt64) &&& (2147483647 : Int64)), .second, lv ((p2.toInt64) &&& (2147483647 : Int64)), .second, lv (fMin ((p1.toInt64) &&& (2147483647 : Int64)) ((p2.toInt64) &&& (2147483647 : Int64))), .second, iv b70, lv (fMax ((p1.toInt64) &&& (2147483647 : Int64)) ((p2.toInt64) &&& (2147483647 : Int64))), .second, .unset, .unset]) rfl k₀) ?_
            show Gm p e below T72 m 167 #[iv p0, iv p1, iv p2, iv p3, iv k, iv b2, rv r12, lv ((k.toInt64) + (0 : Int64)), .second, lv ((p1.toInt64) &&& (2147483647 : Int64)), .second, lv ((p2.toInt64) &&& (2147483647 : Int64)), .second, lv (fMin ((p1.toInt64) &&& (2147483647 : Int64)) ((p2.toInt64) &&& (2147483647 : Int64))), .second, iv b70, lv (fMax ((p1.toInt64) &&& (2147483647 : Int64)) ((p2.toInt64) &&& (2147483647 : Int64))), .second, .unset, .unset] [] _
            refine own_go (fun t₀ k₀ => XS.iload X72.here hx rfl (Jvm.hb hby at_167) rfl k₀) ?_
            show Gm p e below T72 m 169 #[iv p0, iv p1, iv p2, iv p3, iv k, iv b2, rv r12, lv ((k.toInt64) + (0 : Int64)), .second, lv ((p1.toInt64) &&& (2147483647 : Int64)), .second, lv ((p2.toInt64) &&& (2147483647 : Int64)), .second, lv (fMin ((p1.toInt64) &&& (2147483647 : Int64)) ((p2.toInt64) &&& (2147483647 : Int64))), .second, iv b70, lv (fMax ((p1.toInt64) &&& (2147483647 : Int64)) ((p2.toInt64) &&& (2147483647 : Int64))), .second, .unset, .unset] [(.int b70)] _
            refine own_go (fun t₀ k₀ => XS.ifYes X72.here hx rfl (pc0 := 169) (pc' := 186) rfl (Jvm.hb hby at_169) rfl (XT.i0_eq_t c71) (by decide) (by decide) k₀) ?_
            show Gm p e below T72 m 186 #[iv p0, iv p1, iv p2, iv p3, iv k, iv b2, rv r12, lv ((k.toInt64) + (0 : Int64)), .second, lv ((p1.toInt64) &&& (2147483647 : Int64)), .second, lv ((p2.toInt64) &&& (2147483647 : Int64)), .second, lv (fMin ((p1.toInt64) &&& (2147483647 : Int64)) ((p2.toInt64) &&& (2147483647 : Int64))), .second, iv b70, lv (fMax ((p1.toInt64) &&& (2147483647 : Int64)) ((p2.toInt64) &&& (2147483647 : Int64))), .second, .unset, .unset] [] _
            refine own_go (fun t₀ k₀ => XS.lload X72.here hx rfl (Jvm.hb hby at_186) rfl k₀) ?_
            show Gm p e below T72 m 188 #[iv p0, iv p1, iv p2, iv p3, iv k, iv b2, rv r12, lv ((k.toInt64) + (0 : Int64)), .second, lv ((p1.toInt64) &&& (2147483647 : Int64)), .second, lv ((p2.toInt64) &&& (2147483647 : Int64)), .second, lv (fMin ((p1.toInt64) &&& (2147483647 : Int64)) ((p2.toInt64) &&& (2147483647 : Int64))), .second, iv b70, lv (fMax ((p1.toInt64) &&& (2147483647 : Int64)) ((p2.toInt64) &&& (2147483647 : Int64))), .second, .unset, .unset] [(.long (fMax ((p1.toInt64) &&& (2147483647 : Int64)) ((p2.toInt64) &&& (2147483647 : Int64))))] _
            refine own_go (fun t₀ k₀ => XS.lload X72.here hx rfl (Jvm.hb hby at_188) rfl k₀) ?_
            show Gm p e below T72 m 190 #[iv p0, iv p1, iv p2, iv p3, iv k, iv b2, rv r12, lv ((k.toInt64) + (0 : Int64)), .second, lv ((p1.toInt64) &&& (2147483647 : Int64)), .second, lv ((p2.toInt64) &&& (2147483647 : Int64)), .second, lv (fMin ((p1.toInt64) &&& (2147483647 : Int64)) ((p2.toInt64) &&& (2147483647 : Int64))), .second, iv b70, lv (fMax ((p1.toInt64) &&& (2147483647 : Int64)) ((p2.toInt64) &&& (2147483647 : Int64))), .second, .unset, .unset] [(.long ((k.toInt64) + (0 : Int64))), (.long (fMax ((p1.toInt64) &&& (2147483647 : Int64)) ((p2.toInt64) &&& (2147483647 : Int64))))] _
            refine own_go (fun t₀ k₀ => XS.lconst X72.here hx rfl (Jvm.hb hby at_190) k₀) ?_
            show Gm p e below T72 m 191 #[iv p0, iv p1, iv p2, iv p3, iv k, iv b2, rv r12, lv ((k.toInt64) + (0 : Int64)), .second, lv ((p1.toInt64) &&& (2147483647 : Int64)), .second, lv ((p2.toInt64) &&& (2147483647 : Int64)), .second, lv (fMin ((p1.toInt64) &&& (2147483647 : Int64)) ((p2.toInt64) &&& (2147483647 : Int64))), .second, iv b70, lv (fMax ((p1.toInt64) &&& (2147483647 : Int64)) ((p2.toInt64) &&& (2147483647 : Int64))), .second, .unset, .unset] [(.long (1 : Int64)), (.long ((k.toInt64) + (0 : Int64))), (.long (fMax ((p1.toInt64) &&& (2147483647 : Int64)) ((p2.toInt64) &&& (2147483647 : Int64))))] _
            refine own_go (fun t₀ k₀ => XS.ladd X72.here hx rfl (Jvm.hb hby at_191) rfl k₀) ?_
            show Gm p e below T72 m 192 #[iv p0, iv p1, iv p2, iv p3, iv k, iv b2, rv r12, lv ((k.toInt64) + (0 : Int64)), .second, lv ((p1.toInt64) &&& (2147483647 : Int64)), .second, lv ((p2.toInt64) &&& (2147483647 : Int64)), .second, lv (fMin ((p1.toInt64) &&& (2147483647 : Int64)) ((p2.toInt64) &&& (2147483647 : Int64))), .second, iv b70, lv (fMax ((p1.toInt64) &&& (2147483647 : Int64)) ((p2.toInt64) &&& (2147483647 : Int64))), .second, .unset, .unset] [(.long (((k.toInt64) + (0 : Int64)) + (1 : Int64))), (.long (fMax ((p1.toInt64) &&& (2147483647 : Int64)) ((p2.toInt64) &&& (2147483647 : Int64))))] _
            refine own_go (fun t₀ k₀ => XS.lmul X72.here hx rfl (Jvm.hb hby at_192) rfl k₀) ?_
            show Gm p e below T72 m 193 #[iv p0, iv p1, iv p2, iv p3, iv k, iv b2, rv r12, lv ((k.toInt64) + (0 : Int64)), .second, lv ((p1.toInt64) &&& (2147483647 : Int64)), .second, lv ((p2.toInt64) &&& (2147483647 : Int64)), .second, lv (fMin ((p1.toInt64) &&& (2147483647 : Int64)) ((p2.toInt64) &&& (2147483647 : Int64))), .second, iv b70, lv (fMax ((p1.toInt64) &&& (2147483647 : Int64)) ((p2.toInt64) &&& (2147483647 : Int64))), .second, .unset, .unset] [(.long ((fMax ((p1.toInt64) &&& (2147483647 : Int64)) ((p2.toInt64) &&& (2147483647 : Int64))) * (((k.toInt64) + (0 : Int64)) + (1 : Int64))))] _
            refine own_go (fun t₀ k₀ => XS.lload X72.here hx rfl (Jvm.hb hby at_193) rfl k₀) ?_
            show Gm p e below T72 m 195 #[iv p0, iv p1, iv p2, iv p3, iv k, iv b2, rv r12, lv ((k.toInt64) + (0 : Int64)), .second, lv ((p1.toInt64) &&& (2147483647 : Int64)), .second, lv ((p2.toInt64) &&& (2147483647 : Int64)), .second, lv (fMin ((p1.toInt64) &&& (2147483647 : Int64)) ((p2.toInt64) &&& (2147483647 : Int64))), .second, iv b70, lv (fMax ((p1.toInt64) &&& (2147483647 : Int64)) ((p2.toInt64) &&& (2147483647 : Int64))), .second, .unset, .unset] [(.long (fMin ((p1.toInt64) &&& (2147483647 : Int64)) ((p2.toInt64) &&& (2147483647 : Int64)))), (.long ((fMax ((p1.toInt64) &&& (2147483647 : Int64)) ((p2.toInt64) &&& (2147483647 : Int64))) * (((k.toInt64) + (0 : Int64)) + (1 : Int64))))] _
            refine own_go (fun t₀ k₀ => XS.lsub X72.here hx rfl (Jvm.hb hby at_195) rfl k₀) ?_
            show Gm p e below T72 m 196 #[iv p0, iv p1, iv p2, iv p3, iv k, iv b2, rv r12, lv ((k.toInt64) + (0 : Int64)), .second, lv ((p1.toInt64) &&& (2147483647 : Int64)), .second, lv ((p2.toInt64) &&& (2147483647 : Int64)), .second, lv (fMin ((p1.toInt64) &&& (2147483647 : Int64)) ((p2.toInt64) &&& (2147483647 : Int64))), .second, iv b70, lv (fMax ((p1.toInt64) &&& (2147483647 : Int64)) ((p2.toInt64) &&& (2147483647 : Int64))), .second, .unset, .unset] [(.long (((fMax ((p1.toInt64) &&& (2147483647 : Int64)) ((p2.toInt64) &&& (2147483647 : Int64))) * (((k.toInt64) + (0 : Int64)) + (1 : Int64))) - (fMin ((p1.toInt64) &&& (2147483647 : Int64)) ((p2.toInt64) &&& (2147483647 : Int64)))))] _
            refine own_go (fun t₀ k₀ => XS.lstore X72.here hx rfl (Jvm.hb hby at_196) rfl (l' := #[iv p0, iv p1, iv p2, iv p3, iv k, iv b2, rv r12, lv ((k.toInt64) + (0 : Int64)), .second, lv ((p1.toInt64) &&& (2147483647 : Int64)), .second, lv ((p2.toInt64) &&& (2147483647 : Int64)), .second, lv (fMin ((p1.toInt64) &&& (2147483647 : Int64)) ((p2.toInt64) &&& (2147483647 : Int64))), .second, iv b70, lv (fMax ((p1.toInt64) &&& (2147483647 : Int64)) ((p2.toInt64) &&& (2147483647 : Int64))), .second, lv (((fMax ((p1.toInt64) &&& (2147483647 : Int64)) ((p2.toInt64) &&& (2147483647 : Int64))) * (((k.toInt64) + (0 : Int64)) + (1 : Int64))) - (fMin ((p1.toInt64) &&& (2147483647 : Int64)) ((p2.toInt64) &&& (2147483647 : Int64)))), .second]) rfl k₀) ?_
            show Gm p e below T72 m 198 #[iv p0, iv p1, iv p2, iv p3, iv k, iv b2, rv r12, lv ((k.toInt64) + (0 : Int64)), .second, lv ((p1.toInt64) &&& (2147483647 : Int64)), .second, lv ((p2.toInt64) &&& (2147483647 : Int64)), .second, lv (fMin ((p1.toInt64) &&& (2147483647 : Int64)) ((p2.toInt64) &&& (2147483647 : Int64))), .second, iv b70, lv (fMax ((p1.toInt64) &&& (2147483647 : Int64)) ((p2.toInt64) &&& (2147483647 : Int64))), .second, lv (((fMax ((p1.toInt64) &&& (2147483647 : Int64)) ((p2.toInt64) &&& (2147483647 : Int64))) * (((k.toInt64) + (0 : Int64)) + (1 : Int64))) - (fMin ((p1.toInt64) &&& (2147483647 : Int64)) ((p2.toInt64) &&& (2147483647 : Int64)))), .second] [] _
            refine own_go (fun t₀ k₀ => XS.aload X72.here hx rfl (Jvm.hb hby at_198) rfl rfl k₀) ?_
            show Gm p e below T72 m 200 #[iv p0, iv p1, iv p2, iv p3, iv k, iv b2, rv r12, lv ((k.toInt64) + (0 : Int64)), .second, lv ((p1.toInt64) &&& (2147483647 : Int64)), .second, lv ((p2.toInt64) &&& (2147483647 : Int64)), .second, lv (fMin ((p1.toInt64) &&& (2147483647 : Int64)) ((p2.toInt64) &&& (2147483647 : Int64))), .second, iv b70, lv (fMax ((p1.toInt64) &&& (2147483647 : Int64)) ((p2.toInt64) &&& (2147483647 : Int64))), .second, lv (((fMax ((p1.toInt64) &&& (2147483647 : Int64)) ((p2.toInt64) &&& (2147483647 : Int64))) * (((k.toInt64) + (0 : Int64)) + (1 : Int64))) - (fMin ((p1.toInt64) &&& (2147483647 : Int64)) ((p2.toInt64) &&& (2147483647 : Int64)))), .second] [(.ref r12)] _
            refine own_go (fun t₀ k₀ => XS.lload X72.here hx rfl (Jvm.hb hby at_200) rfl k₀) ?_
            show Gm p e below T72 m 202 #[iv p0, iv p1, iv p2, iv p3, iv k, iv b2, rv r12, lv ((k.toInt64) + (0 : Int64)), .second, lv ((p1.toInt64) &&& (2147483647 : Int64)), .second, lv ((p2.toInt64) &&& (2147483647 : Int64)), .second, lv (fMin ((p1.toInt64) &&& (2147483647 : Int64)) ((p2.toInt64) &&& (2147483647 : Int64))), .second, iv b70, lv (fMax ((p1.toInt64) &&& (2147483647 : Int64)) ((p2.toInt64) &&& (2147483647 : Int64))), .second, lv (((fMax ((p1.toInt64) &&& (2147483647 : Int64)) ((p2.toInt64) &&& (2147483647 : Int64))) * (((k.toInt64) + (0 : Int64)) + (1 : Int64))) - (fMin ((p1.toInt64) &&& (2147483647 : Int64)) ((p2.toInt64) &&& (2147483647 : Int64)))), .second] [(.long (fMin ((p1.toInt64) &&& (2147483647 : Int64)) ((p2.toInt64) &&& (2147483647 : Int64)))), (.ref r12)] _
            refine own_go (fun t₀ k₀ => XS.lload X72.here hx rfl (Jvm.hb hby at_202) rfl k₀) ?_
            show Gm p e below T72 m 204 #[iv p0, iv p1, iv p2, iv p3, iv k, iv b2, rv r12, lv ((k.toInt64) + (0 : Int64)), .second, lv ((p1.toInt64) &&& (2147483647 : Int64)), .second, lv ((p2.toInt64) &&& (2147483647 : Int64)), .second, lv (fMin ((p1.toInt64) &&& (2147483647 : Int64)) ((p2.toInt64) &&& (2147483647 : Int64))), .second, iv b70, lv (fMax ((p1.toInt64) &&& (2147483647 : Int64)) ((p2.toInt64) &&& (2147483647 : Int64))), .second, lv (((fMax ((p1.toInt64) &&& (2147483647 : Int64)) ((p2.toInt64) &&& (2147483647 : Int64))) * (((k.toInt64) + (0 : Int64)) + (1 : Int64))) - (fMin ((p1.toInt64) &&& (2147483647 : Int64)) ((p2.toInt64) &&& (2147483647 : Int64)))), .second] [(.long (fMax ((p1.toInt64) &&& (2147483647 : Int64)) ((p2.toInt64) &&& (2147483647 : Int64)))), (.long (fMin ((p1.toInt64) &&& (2147483647 : Int64)) ((p2.toInt64) &&& (2147483647 : Int64)))), (.ref r12)] _
            obtain ⟨cq73, kq73, q73a, q73b, q73c⟩ := isOf hZ e72 Ec67
            obtain ⟨_, _, ⟨T73, L73, k73, n73⟩, -, X73, ⟨Lc73, hQ73, l73, y73, z73⟩, st73⟩ := X72.virtualBack hx (y := (⟨"com/example/data_in_bounds/datainbounds/metapath/RegexProgram$Fragment", "repeatedLength", "(JJ)J"⟩ : MethodName)) (z := (⟨"com/example/data_in_bounds/datainbounds/metapath/RegexProgram$Fragment", "repeatedLength", "(JJ)J"⟩ : MethodName)) hown (mvT hZ (hw _ (List.mem_of_getElem? (i := 22) rfl))) (mvT hZ (hw _ (List.mem_of_getElem? (i := 23) rfl))) (notFace_of_selects (args := #[]) (mvT hZ (hw _ (List.mem_of_getElem? (i := 25) rfl)))) (mvT hZ (hw _ (List.mem_of_getElem? (i := 25) rfl))) (mvT hZ (hw _ (List.mem_of_getElem? (i := 24) rfl))) (by decide) (backOf (W := 0) (rm4 l Z a0 hw [] r12 (fMin ((p1.toInt64) &&& (2147483647 : Int64)) ((p2.toInt64) &&& (2147483647 : Int64))) (fMax ((p1.toInt64) &&& (2147483647 : Int64)) ((p2.toInt64) &&& (2147483647 : Int64))) (3 : Int32) ((b2 &&& (1 : Int32)) &&& (1 : Int32)) T67.heap n0 Z67 Flen67 Fnul67) hZ (hw _ (List.mem_of_getElem? (i := 26) rfl)) (hw _ (List.mem_of_getElem? (i := 2) rfl)) (by decide) (by decide)) q73a q73c (g := (mkF m 204 #[iv p0, iv p1, iv p2, iv p3, iv k, iv b2, rv r12, lv ((k.toInt64) + (0 : Int64)), .second, lv ((p1.toInt64) &&& (2147483647 : Int64)), .second, lv ((p2.toInt64) &&& (2147483647 : Int64)), .second, lv (fMin ((p1.toInt64) &&& (2147483647 : Int64)) ((p2.toInt64) &&& (2147483647 : Int64))), .second, iv b70, lv (fMax ((p1.toInt64) &&& (2147483647 : Int64)) ((p2.toInt64) &&& (2147483647 : Int64))), .second, lv (((fMax ((p1.toInt64) &&& (2147483647 : Int64)) ((p2.toInt64) &&& (2147483647 : Int64))) * (((k.toInt64) + (0 : Int64)) + (1 : Int64))) - (fMin ((p1.toInt64) &&& (2147483647 : Int64)) ((p2.toInt64) &&& (2147483647 : Int64)))), .second] [(.long (fMax ((p1.toInt64) &&& (2147483647 : Int64)) ((p2.toInt64) &&& (2147483647 : Int64)))), (.long (fMin ((p1.toInt64) &&& (2147483647 : Int64)) ((p2.toInt64) &&& (2147483647 : Int64)))), (.ref r12)])) rfl (by rw [hml]; rfl) (Steps.refl _) (argsL := [(.long (fMin ((p1.toInt64) &&& (2147483647 : Int64)) ((p2.toInt64) &&& (2147483647 : Int64)))), (.long (fMax ((p1.toInt64) &&& (2147483647 : Int64)) ((p2.toInt64) &&& (2147483647 : Int64))))]) (rest := []) (lenOf own_pd4 rfl) rfl (by show 2 * 0 + _ ≤ _; exact Nat.le_of_eq rfl) (Jvm.hb hby at_204) (fun _ _ => ⟨rfl, e72, (by decide : 6 + 0 ≤ _), (by decide : 36 + 0 ≤ _)⟩)
            dsimp only [Pt.U, Pt.locs, Pt.cells, Pt.slots] at X73 l73 y73 z73 st73 hQ73
            subst l73 y73 z73
            obtain ⟨rfl, Nq73, eq73⟩ := hQ73
            have N73 := Fr.app N72 Nq73
            have e73 : T73.heap = T67.heap := eq73
            refine own_go (fun t k => st73.trans k) ?_
            show Gm p e below T73 m 207 #[iv p0, iv p1, iv p2, iv p3, iv k, iv b2, rv r12, lv ((k.toInt64) + (0 : Int64)), .second, lv ((p1.toInt64) &&& (2147483647 : Int64)), .second, lv ((p2.toInt64) &&& (2147483647 : Int64)), .second, lv (fMin ((p1.toInt64) &&& (2147483647 : Int64)) ((p2.toInt64) &&& (2147483647 : Int64))), .second, iv b70, lv (fMax ((p1.toInt64) &&& (2147483647 : Int64)) ((p2.toInt64) &&& (2147483647 : Int64))), .second, lv (((fMax ((p1.toInt64) &&& (2147483647 : Int64)) ((p2.toInt64) &&& (2147483647 : Int64))) * (((k.toInt64) + (0 : Int64)) + (1 : Int64))) - (fMin ((p1.toInt64) &&& (2147483647 : Int64)) ((p2.toInt64) &&& (2147483647 : Int64)))), .second] [(.long (fR (fMin ((p1.toInt64) &&& (2147483647 : Int64)) ((p2.toInt64) &&& (2147483647 : Int64))) (fMax ((p1.toInt64) &&& (2147483647 : Int64)) ((p2.toInt64) &&& (2147483647 : Int64))) (3 : Int32) ((b2 &&& (1 : Int32)) &&& (1 : Int32))))] _
            refine own_go (fun t₀ k₀ => XS.lload X73.here hx rfl (Jvm.hb hby at_207) rfl k₀) ?_
            show Gm p e below T73 m 209 #[iv p0, iv p1, iv p2, iv p3, iv k, iv b2, rv r12, lv ((k.toInt64) + (0 : Int64)), .second, lv ((p1.toInt64) &&& (2147483647 : Int64)), .second, lv ((p2.toInt64) &&& (2147483647 : Int64)), .second, lv (fMin ((p1.toInt64) &&& (2147483647 : Int64)) ((p2.toInt64) &&& (2147483647 : Int64))), .second, iv b70, lv (fMax ((p1.toInt64) &&& (2147483647 : Int64)) ((p2.toInt64) &&& (2147483647 : Int64))), .second, lv (((fMax ((p1.toInt64) &&& (2147483647 : Int64)) ((p2.toInt64) &&& (2147483647 : Int64))) * (((k.toInt64) + (0 : Int64)) + (1 : Int64))) - (fMin ((p1.toInt64) &&& (2147483647 : Int64)) ((p2.toInt64) &&& (2147483647 : Int64)))), .second] [(.long (((fMax ((p1.toInt64) &&& (2147483647 : Int64)) ((p2.toInt64) &&& (2147483647 : Int64))) * (((k.toInt64) + (0 : Int64)) + (1 : Int64))) - (fMin ((p1.toInt64) &&& (2147483647 : Int64)) ((p2.toInt64) &&& (2147483647 : Int64))))), (.long (fR (fMin ((p1.toInt64) &&& (2147483647 : Int64)) ((p2.toInt64) &&& (2147483647 : Int64))) (fMax ((p1.toInt64) &&& (2147483647 : Int64)) ((p2.toInt64) &&& (2147483647 : Int64))) (3 : Int32) ((b2 &&& (1 : Int32)) &&& (1 : Int32))))] _
            refine own_go (fun t₀ k₀ => XT.lcmp X73.here hx rfl (Jvm.hb hby at_209) rfl k₀) ?_
            show Gm p e below T73 m 210 #[iv p0, iv p1, iv p2, iv p3, iv k, iv b2, rv r12, lv ((k.toInt64) + (0 : Int64)), .second, lv ((p1.toInt64) &&& (2147483647 : Int64)), .second, lv ((p2.toInt64) &&& (2147483647 : Int64)), .second, lv (fMin ((p1.toInt64) &&& (2147483647 : Int64)) ((p2.toInt64) &&& (2147483647 : Int64))), .second, iv b70, lv (fMax ((p1.toInt64) &&& (2147483647 : Int64)) ((p2.toInt64) &&& (2147483647 : Int64))), .second, lv (((fMax ((p1.toInt64) &&& (2147483647 : Int64)) ((p2.toInt64) &&& (2147483647 : Int64))) * (((k.toInt64) + (0 : Int64)) + (1 : Int64))) - (fMin ((p1.toInt64) &&& (2147483647 : Int64)) ((p2.toInt64) &&& (2147483647 : Int64)))), .second] [(.int (XT.cmpL (fR (fMin ((p1.toInt64) &&& (2147483647 : Int64)) ((p2.toInt64) &&& (2147483647 : Int64))) (fMax ((p1.toInt64) &&& (2147483647 : Int64)) ((p2.toInt64) &&& (2147483647 : Int64))) (3 : Int32) ((b2 &&& (1 : Int32)) &&& (1 : Int32))) (((fMax ((p1.toInt64) &&& (2147483647 : Int64)) ((p2.toInt64) &&& (2147483647 : Int64))) * (((k.toInt64) + (0 : Int64)) + (1 : Int64))) - (fMin ((p1.toInt64) &&& (2147483647 : Int64)) ((p2.toInt64) &&& (2147483647 : Int64))))))] _
            refine own_go (fun t₀ k₀ => XS.ifNo X73.here hx rfl (Jvm.hb hby at_210) rfl (XT.ll_ne_f (own_fin _ _ _ _ ((k.toInt64) + (0 : Int64)) _ (by rw [hk, if_pos (by rw [c68]; rfl)]; decide) (by rw [if_neg (own_max _ _ hp hq)]; try rfl))) k₀) ?_
            show Gm p e below T73 m 213 #[iv p0, iv p1, iv p2, iv p3, iv k, iv b2, rv r12, lv ((k.toInt64) + (0 : Int64)), .second, lv ((p1.toInt64) &&& (2147483647 : Int64)), .second, lv ((p2.toInt64) &&& (2147483647 : Int64)), .second, lv (fMin ((p1.toInt64) &&& (2147483647 : Int64)) ((p2.toInt64) &&& (2147483647 : Int64))), .second, iv b70, lv (fMax ((p1.toInt64) &&& (2147483647 : Int64)) ((p2.toInt64) &&& (2147483647 : Int64))), .second, lv (((fMax ((p1.toInt64) &&& (2147483647 : Int64)) ((p2.toInt64) &&& (2147483647 : Int64))) * (((k.toInt64) + (0 : Int64)) + (1 : Int64))) - (fMin ((p1.toInt64) &&& (2147483647 : Int64)) ((p2.toInt64) &&& (2147483647 : Int64)))), .second] [] _
            refine own_go (fun t₀ k₀ => XS.iconst X73.here hx rfl (Jvm.hb hby at_213) k₀) ?_
            show Gm p e below T73 m 214 #[iv p0, iv p1, iv p2, iv p3, iv k, iv b2, rv r12, lv ((k.toInt64) + (0 : Int64)), .second, lv ((p1.toInt64) &&& (2147483647 : Int64)), .second, lv ((p2.toInt64) &&& (2147483647 : Int64)), .second, lv (fMin ((p1.toInt64) &&& (2147483647 : Int64)) ((p2.toInt64) &&& (2147483647 : Int64))), .second, iv b70, lv (fMax ((p1.toInt64) &&& (2147483647 : Int64)) ((p2.toInt64) &&& (2147483647 : Int64))), .second, lv (((fMax ((p1.toInt64) &&& (2147483647 : Int64)) ((p2.toInt64) &&& (2147483647 : Int64))) * (((k.toInt64) + (0 : Int64)) + (1 : Int64))) - (fMin ((p1.toInt64) &&& (2147483647 : Int64)) ((p2.toInt64) &&& (2147483647 : Int64)))), .second] [(.int (1 : Int32))] _
            refine own_go (fun t₀ k₀ => XS.goto X73.here hx rfl (pc0 := 214) (pc' := 218) rfl (Jvm.hb hby at_214) (by decide) (by decide) k₀) ?_
            show Gm p e below T73 m 218 #[iv p0, iv p1, iv p2, iv p3, iv k, iv b2, rv r12, lv ((k.toInt64) + (0 : Int64)), .second, lv ((p1.toInt64) &&& (2147483647 : Int64)), .second, lv ((p2.toInt64) &&& (2147483647 : Int64)), .second, lv (fMin ((p1.toInt64) &&& (2147483647 : Int64)) ((p2.toInt64) &&& (2147483647 : Int64))), .second, iv b70, lv (fMax ((p1.toInt64) &&& (2147483647 : Int64)) ((p2.toInt64) &&& (2147483647 : Int64))), .second, lv (((fMax ((p1.toInt64) &&& (2147483647 : Int64)) ((p2.toInt64) &&& (2147483647 : Int64))) * (((k.toInt64) + (0 : Int64)) + (1 : Int64))) - (fMin ((p1.toInt64) &&& (2147483647 : Int64)) ((p2.toInt64) &&& (2147483647 : Int64)))), .second] [(.int (1 : Int32))] _
            exact own_retI X73 hx hlk (t := .boolean) Bd.returns rfl (by simp) (Jvm.hb hby at_218) e73 ⟨rfl, N73⟩ (by decide) (by decide)
          · have hfork := trivial
            refine own_go (fun t₀ k₀ => XS.ifNo X69.here hx rfl (Jvm.hb hby at_149) rfl (XT.i0_eq_f c71) k₀) ?_
            show Gm p e below T69 m 152 #[iv p0, iv p1, iv p2, iv p3, iv k, iv b2, rv r12, lv ((k.toInt64) + (0 : Int64)), .second, lv ((p1.toInt64) &&& (2147483647 : Int64)), .second, lv ((p2.toInt64) &&& (2147483647 : Int64)), .second, lv (fMin ((p1.toInt64) &&& (2147483647 : Int64)) ((p2.toInt64) &&& (2147483647 : Int64))), .second, iv b70, .unset, .unset, .unset, .unset] [] _
            refine own_go (fun t₀ k₀ => X69.ldc2J hx hown (mvT hZ (hw _ (List.mem_of_getElem? (i := 20) rfl))) rfl (Jvm.hb hby at_152) k₀) ?_
            show Gm p e below T69 m 155 #[iv p0, iv p1, iv p2, iv p3, iv k, iv b2, rv r12, lv ((k.toInt64) + (0 : Int64)), .second, lv ((p1.toInt64) &&& (2147483647 : Int64)), .second, lv ((p2.toInt64) &&& (2147483647 : Int64)), .second, lv (fMin ((p1.toInt64) &&& (2147483647 : Int64)) ((p2.toInt64) &&& (2147483647 : Int64))), .second, iv b70, .unset, .unset, .unset, .unset] [(.long (-1 : Int64))] _
            refine own_go (fun t₀ k₀ => XS.goto X69.here hx rfl (pc0 := 155) (pc' := 165) rfl (Jvm.hb hby at_155) (by decide) (by decide) k₀) ?_
            show Gm p e below T69 m 165 #[iv p0, iv p1, iv p2, iv p3, iv k, iv b2, rv r12, lv ((k.toInt64) + (0 : Int64)), .second, lv ((p1.toInt64) &&& (2147483647 : Int64)), .second, lv ((p2.toInt64) &&& (2147483647 : Int64)), .second, lv (fMin ((p1.toInt64) &&& (2147483647 : Int64)) ((p2.toInt64) &&& (2147483647 : Int64))), .second, iv b70, .unset, .unset, .unset, .unset] [(.long (-1 : Int64))] _
            refine own_go (fun t₀ k₀ => XS.lstore X69.here hx rfl (Jvm.hb hby at_165) rfl (l' := #[iv p0, iv p1, iv p2, iv p3, iv k, iv b2, rv r12, lv ((k.toInt64) + (0 : Int64)), .second, lv ((p1.toInt64) &&& (2147483647 : Int64)), .second, lv ((p2.toInt64) &&& (2147483647 : Int64)), .second, lv (fMin ((p1.toInt64) &&& (2147483647 : Int64)) ((p2.toInt64) &&& (2147483647 : Int64))), .second, iv b70, lv (-1 : Int64), .second, .unset, .unset]) rfl k₀) ?_
            show Gm p e below T69 m 167 #[iv p0, iv p1, iv p2, iv p3, iv k, iv b2, rv r12, lv ((k.toInt64) + (0 : Int64)), .second, lv ((p1.toInt64) &&& (2147483647 : Int64)), .second, lv ((p2.toInt64) &&& (2147483647 : Int64)), .second, lv (fMin ((p1.toInt64) &&& (2147483647 : Int64)) ((p2.toInt64) &&& (2147483647 : Int64))), .second, iv b70, lv (-1 : Int64), .second, .unset, .unset] [] _
            refine own_go (fun t₀ k₀ => XS.iload X69.here hx rfl (Jvm.hb hby at_167) rfl k₀) ?_
            show Gm p e below T69 m 169 #[iv p0, iv p1, iv p2, iv p3, iv k, iv b2, rv r12, lv ((k.toInt64) + (0 : Int64)), .second, lv ((p1.toInt64) &&& (2147483647 : Int64)), .second, lv ((p2.toInt64) &&& (2147483647 : Int64)), .second, lv (fMin ((p1.toInt64) &&& (2147483647 : Int64)) ((p2.toInt64) &&& (2147483647 : Int64))), .second, iv b70, lv (-1 : Int64), .second, .unset, .unset] [(.int b70)] _
            refine own_go (fun t₀ k₀ => XS.ifNo X69.here hx rfl (Jvm.hb hby at_169) rfl (XT.i0_eq_f c71) k₀) ?_
            show Gm p e below T69 m 172 #[iv p0, iv p1, iv p2, iv p3, iv k, iv b2, rv r12, lv ((k.toInt64) + (0 : Int64)), .second, lv ((p1.toInt64) &&& (2147483647 : Int64)), .second, lv ((p2.toInt64) &&& (2147483647 : Int64)), .second, lv (fMin ((p1.toInt64) &&& (2147483647 : Int64)) ((p2.toInt64) &&& (2147483647 : Int64))), .second, iv b70, lv (-1 : Int64), .second, .unset, .unset] [] _
            refine own_go (fun t₀ k₀ => XS.lload X69.here hx rfl (Jvm.hb hby at_172) rfl k₀) ?_
            show Gm p e below T69 m 174 #[iv p0, iv p1, iv p2, iv p3, iv k, iv b2, rv r12, lv ((k.toInt64) + (0 : Int64)), .second, lv ((p1.toInt64) &&& (2147483647 : Int64)), .second, lv ((p2.toInt64) &&& (2147483647 : Int64)), .second, lv (fMin ((p1.toInt64) &&& (2147483647 : Int64)) ((p2.toInt64) &&& (2147483647 : Int64))), .second, iv b70, lv (-1 : Int64), .second, .unset, .unset] [(.long (fMin ((p1.toInt64) &&& (2147483647 : Int64)) ((p2.toInt64) &&& (2147483647 : Int64))))] _
            refine own_go (fun t₀ k₀ => XS.lconst X69.here hx rfl (Jvm.hb hby at_174) k₀) ?_
            show Gm p e below T69 m 175 #[iv p0, iv p1, iv p2, iv p3, iv k, iv b2, rv r12, lv ((k.toInt64) + (0 : Int64)), .second, lv ((p1.toInt64) &&& (2147483647 : Int64)), .second, lv ((p2.toInt64) &&& (2147483647 : Int64)), .second, lv (fMin ((p1.toInt64) &&& (2147483647 : Int64)) ((p2.toInt64) &&& (2147483647 : Int64))), .second, iv b70, lv (-1 : Int64), .second, .unset, .unset] [(.long (1 : Int64)), (.long (fMin ((p1.toInt64) &&& (2147483647 : Int64)) ((p2.toInt64) &&& (2147483647 : Int64))))] _
            refine own_go (fun t₀ k₀ => XS.ladd X69.here hx rfl (Jvm.hb hby at_175) rfl k₀) ?_
            show Gm p e below T69 m 176 #[iv p0, iv p1, iv p2, iv p3, iv k, iv b2, rv r12, lv ((k.toInt64) + (0 : Int64)), .second, lv ((p1.toInt64) &&& (2147483647 : Int64)), .second, lv ((p2.toInt64) &&& (2147483647 : Int64)), .second, lv (fMin ((p1.toInt64) &&& (2147483647 : Int64)) ((p2.toInt64) &&& (2147483647 : Int64))), .second, iv b70, lv (-1 : Int64), .second, .unset, .unset] [(.long ((fMin ((p1.toInt64) &&& (2147483647 : Int64)) ((p2.toInt64) &&& (2147483647 : Int64))) + (1 : Int64)))] _
            refine own_go (fun t₀ k₀ => XS.lload X69.here hx rfl (Jvm.hb hby at_176) rfl k₀) ?_
            show Gm p e below T69 m 178 #[iv p0, iv p1, iv p2, iv p3, iv k, iv b2, rv r12, lv ((k.toInt64) + (0 : Int64)), .second, lv ((p1.toInt64) &&& (2147483647 : Int64)), .second, lv ((p2.toInt64) &&& (2147483647 : Int64)), .second, lv (fMin ((p1.toInt64) &&& (2147483647 : Int64)) ((p2.toInt64) &&& (2147483647 : Int64))), .second, iv b70, lv (-1 : Int64), .second, .unset, .unset] [(.long ((k.toInt64) + (0 : Int64))), (.long ((fMin ((p1.toInt64) &&& (2147483647 : Int64)) ((p2.toInt64) &&& (2147483647 : Int64))) + (1 : Int64)))] _
            refine own_go (fun t₀ k₀ => XS.lmul X69.here hx rfl (Jvm.hb hby at_178) rfl k₀) ?_
            show Gm p e below T69 m 179 #[iv p0, iv p1, iv p2, iv p3, iv k, iv b2, rv r12, lv ((k.toInt64) + (0 : Int64)), .second, lv ((p1.toInt64) &&& (2147483647 : Int64)), .second, lv ((p2.toInt64) &&& (2147483647 : Int64)), .second, lv (fMin ((p1.toInt64) &&& (2147483647 : Int64)) ((p2.toInt64) &&& (2147483647 : Int64))), .second, iv b70, lv (-1 : Int64), .second, .unset, .unset] [(.long (((fMin ((p1.toInt64) &&& (2147483647 : Int64)) ((p2.toInt64) &&& (2147483647 : Int64))) + (1 : Int64)) * ((k.toInt64) + (0 : Int64))))] _
            refine own_go (fun t₀ k₀ => X69.ldc2J hx hown (mvT hZ (hw _ (List.mem_of_getElem? (i := 21) rfl))) rfl (Jvm.hb hby at_179) k₀) ?_
            show Gm p e below T69 m 182 #[iv p0, iv p1, iv p2, iv p3, iv k, iv b2, rv r12, lv ((k.toInt64) + (0 : Int64)), .second, lv ((p1.toInt64) &&& (2147483647 : Int64)), .second, lv ((p2.toInt64) &&& (2147483647 : Int64)), .second, lv (fMin ((p1.toInt64) &&& (2147483647 : Int64)) ((p2.toInt64) &&& (2147483647 : Int64))), .second, iv b70, lv (-1 : Int64), .second, .unset, .unset] [(.long (2 : Int64)), (.long (((fMin ((p1.toInt64) &&& (2147483647 : Int64)) ((p2.toInt64) &&& (2147483647 : Int64))) + (1 : Int64)) * ((k.toInt64) + (0 : Int64))))] _
            refine own_go (fun t₀ k₀ => XS.ladd X69.here hx rfl (Jvm.hb hby at_182) rfl k₀) ?_
            show Gm p e below T69 m 183 #[iv p0, iv p1, iv p2, iv p3, iv k, iv b2, rv r12, lv ((k.toInt64) + (0 : Int64)), .second, lv ((p1.toInt64) &&& (2147483647 : Int64)), .second, lv ((p2.toInt64) &&& (2147483647 : Int64)), .second, lv (fMin ((p1.toInt64) &&& (2147483647 : Int64)) ((p2.toInt64) &&& (2147483647 : Int64))), .second, iv b70, lv (-1 : Int64), .second, .unset, .unset] [(.long ((((fMin ((p1.toInt64) &&& (2147483647 : Int64)) ((p2.toInt64) &&& (2147483647 : Int64))) + (1 : Int64)) * ((k.toInt64) + (0 : Int64))) + (2 : Int64)))] _
            refine own_go (fun t₀ k₀ => XS.goto X69.here hx rfl (pc0 := 183) (pc' := 196) rfl (Jvm.hb hby at_183) (by decide) (by decide) k₀) ?_
            show Gm p e below T69 m 196 #[iv p0, iv p1, iv p2, iv p3, iv k, iv b2, rv r12, lv ((k.toInt64) + (0 : Int64)), .second, lv ((p1.toInt64) &&& (2147483647 : Int64)), .second, lv ((p2.toInt64) &&& (2147483647 : Int64)), .second, lv (fMin ((p1.toInt64) &&& (2147483647 : Int64)) ((p2.toInt64) &&& (2147483647 : Int64))), .second, iv b70, lv (-1 : Int64), .second, .unset, .unset] [(.long ((((fMin ((p1.toInt64) &&& (2147483647 : Int64)) ((p2.toInt64) &&& (2147483647 : Int64))) + (1 : Int64)) * ((k.toInt64) + (0 : Int64))) + (2 : Int64)))] _
            refine own_go (fun t₀ k₀ => XS.lstore X69.here hx rfl (Jvm.hb hby at_196) rfl (l' := #[iv p0, iv p1, iv p2, iv p3, iv k, iv b2, rv r12, lv ((k.toInt64) + (0 : Int64)), .second, lv ((p1.toInt64) &&& (2147483647 : Int64)), .second, lv ((p2.toInt64) &&& (2147483647 : Int64)), .second, lv (fMin ((p1.toInt64) &&& (2147483647 : Int64)) ((p2.toInt64) &&& (2147483647 : Int64))), .second, iv b70, lv (-1 : Int64), .second, lv ((((fMin ((p1.toInt64) &&& (2147483647 : Int64)) ((p2.toInt64) &&& (2147483647 : Int64))) + (1 : Int64)) * ((k.toInt64) + (0 : Int64))) + (2 : Int64)), .second]) rfl k₀) ?_
            show Gm p e below T69 m 198 #[iv p0, iv p1, iv p2, iv p3, iv k, iv b2, rv r12, lv ((k.toInt64) + (0 : Int64)), .second, lv ((p1.toInt64) &&& (2147483647 : Int64)), .second, lv ((p2.toInt64) &&& (2147483647 : Int64)), .second, lv (fMin ((p1.toInt64) &&& (2147483647 : Int64)) ((p2.toInt64) &&& (2147483647 : Int64))), .second, iv b70, lv (-1 : Int64), .second, lv ((((fMin ((p1.toInt64) &&& (2147483647 : Int64)) ((p2.toInt64) &&& (2147483647 : Int64))) + (1 : Int64)) * ((k.toInt64) + (0 : Int64))) + (2 : Int64)), .second] [] _
            refine own_go (fun t₀ k₀ => XS.aload X69.here hx rfl (Jvm.hb hby at_198) rfl rfl k₀) ?_
            show Gm p e below T69 m 200 #[iv p0, iv p1, iv p2, iv p3, iv k, iv b2, rv r12, lv ((k.toInt64) + (0 : Int64)), .second, lv ((p1.toInt64) &&& (2147483647 : Int64)), .second, lv ((p2.toInt64) &&& (2147483647 : Int64)), .second, lv (fMin ((p1.toInt64) &&& (2147483647 : Int64)) ((p2.toInt64) &&& (2147483647 : Int64))), .second, iv b70, lv (-1 : Int64), .second, lv ((((fMin ((p1.toInt64) &&& (2147483647 : Int64)) ((p2.toInt64) &&& (2147483647 : Int64))) + (1 : Int64)) * ((k.toInt64) + (0 : Int64))) + (2 : Int64)), .second] [(.ref r12)] _
            refine own_go (fun t₀ k₀ => XS.lload X69.here hx rfl (Jvm.hb hby at_200) rfl k₀) ?_
            show Gm p e below T69 m 202 #[iv p0, iv p1, iv p2, iv p3, iv k, iv b2, rv r12, lv ((k.toInt64) + (0 : Int64)), .second, lv ((p1.toInt64) &&& (2147483647 : Int64)), .second, lv ((p2.toInt64) &&& (2147483647 : Int64)), .second, lv (fMin ((p1.toInt64) &&& (2147483647 : Int64)) ((p2.toInt64) &&& (2147483647 : Int64))), .second, iv b70, lv (-1 : Int64), .second, lv ((((fMin ((p1.toInt64) &&& (2147483647 : Int64)) ((p2.toInt64) &&& (2147483647 : Int64))) + (1 : Int64)) * ((k.toInt64) + (0 : Int64))) + (2 : Int64)), .second] [(.long (fMin ((p1.toInt64) &&& (2147483647 : Int64)) ((p2.toInt64) &&& (2147483647 : Int64)))), (.ref r12)] _
            refine own_go (fun t₀ k₀ => XS.lload X69.here hx rfl (Jvm.hb hby at_202) rfl k₀) ?_
            show Gm p e below T69 m 204 #[iv p0, iv p1, iv p2, iv p3, iv k, iv b2, rv r12, lv ((k.toInt64) + (0 : Int64)), .second, lv ((p1.toInt64) &&& (2147483647 : Int64)), .second, lv ((p2.toInt64) &&& (2147483647 : Int64)), .second, lv (fMin ((p1.toInt64) &&& (2147483647 : Int64)) ((p2.toInt64) &&& (2147483647 : Int64))), .second, iv b70, lv (-1 : Int64), .second, lv ((((fMin ((p1.toInt64) &&& (2147483647 : Int64)) ((p2.toInt64) &&& (2147483647 : Int64))) + (1 : Int64)) * ((k.toInt64) + (0 : Int64))) + (2 : Int64)), .second] [(.long (-1 : Int64)), (.long (fMin ((p1.toInt64) &&& (2147483647 : Int64)) ((p2.toInt64) &&& (2147483647 : Int64)))), (.ref r12)] _
            obtain ⟨cq74, kq74, q74a, q74b, q74c⟩ := isOf hZ e69 Ec67
            obtain ⟨_, _, ⟨T74, L74, k74, n74⟩, -, X74, ⟨Lc74, hQ74, l74, y74, z74⟩, st74⟩ := X69.virtualBack hx (y := (⟨"com/example/data_in_bounds/datainbounds/metapath/RegexProgram$Fragment", "repeatedLength", "(JJ)J"⟩ : MethodName)) (z := (⟨"com/example/data_in_bounds/datainbounds/metapath/RegexProgram$Fragment", "repeatedLength", "(JJ)J"⟩ : MethodName)) hown (mvT hZ (hw _ (List.mem_of_getElem? (i := 22) rfl))) (mvT hZ (hw _ (List.mem_of_getElem? (i := 23) rfl))) (notFace_of_selects (args := #[]) (mvT hZ (hw _ (List.mem_of_getElem? (i := 25) rfl)))) (mvT hZ (hw _ (List.mem_of_getElem? (i := 25) rfl))) (mvT hZ (hw _ (List.mem_of_getElem? (i := 24) rfl))) (by decide) (backOf (W := 0) (rm4 l Z a0 hw [] r12 (fMin ((p1.toInt64) &&& (2147483647 : Int64)) ((p2.toInt64) &&& (2147483647 : Int64))) (-1 : Int64) (3 : Int32) ((b2 &&& (1 : Int32)) &&& (1 : Int32)) T67.heap n0 Z67 Flen67 Fnul67) hZ (hw _ (List.mem_of_getElem? (i := 26) rfl)) (hw _ (List.mem_of_getElem? (i := 2) rfl)) (by decide) (by decide)) q74a q74c (g := (mkF m 204 #[iv p0, iv p1, iv p2, iv p3, iv k, iv b2, rv r12, lv ((k.toInt64) + (0 : Int64)), .second, lv ((p1.toInt64) &&& (2147483647 : Int64)), .second, lv ((p2.toInt64) &&& (2147483647 : Int64)), .second, lv (fMin ((p1.toInt64) &&& (2147483647 : Int64)) ((p2.toInt64) &&& (2147483647 : Int64))), .second, iv b70, lv (-1 : Int64), .second, lv ((((fMin ((p1.toInt64) &&& (2147483647 : Int64)) ((p2.toInt64) &&& (2147483647 : Int64))) + (1 : Int64)) * ((k.toInt64) + (0 : Int64))) + (2 : Int64)), .second] [(.long (-1 : Int64)), (.long (fMin ((p1.toInt64) &&& (2147483647 : Int64)) ((p2.toInt64) &&& (2147483647 : Int64)))), (.ref r12)])) rfl (by rw [hml]; rfl) (Steps.refl _) (argsL := [(.long (fMin ((p1.toInt64) &&& (2147483647 : Int64)) ((p2.toInt64) &&& (2147483647 : Int64)))), (.long (-1 : Int64))]) (rest := []) (lenOf own_pd4 rfl) rfl (by show 2 * 0 + _ ≤ _; exact Nat.le_of_eq rfl) (Jvm.hb hby at_204) (fun _ _ => ⟨rfl, e69, (by decide : 6 + 0 ≤ _), (by decide : 36 + 0 ≤ _)⟩)
            dsimp only [Pt.U, Pt.locs, Pt.cells, Pt.slots] at X74 l74 y74 z74 st74 hQ74
            subst l74 y74 z74
            obtain ⟨rfl, Nq74, eq74⟩ := hQ74
            have N74 := Fr.app N69 Nq74
            have e74 : T74.heap = T67.heap := eq74
            refine own_go (fun t k => st74.trans k) ?_
            show Gm p e below T74 m 207 #[iv p0, iv p1, iv p2, iv p3, iv k, iv b2, rv r12, lv ((k.toInt64) + (0 : Int64)), .second, lv ((p1.toInt64) &&& (2147483647 : Int64)), .second, lv ((p2.toInt64) &&& (2147483647 : Int64)), .second, lv (fMin ((p1.toInt64) &&& (2147483647 : Int64)) ((p2.toInt64) &&& (2147483647 : Int64))), .second, iv b70, lv (-1 : Int64), .second, lv ((((fMin ((p1.toInt64) &&& (2147483647 : Int64)) ((p2.toInt64) &&& (2147483647 : Int64))) + (1 : Int64)) * ((k.toInt64) + (0 : Int64))) + (2 : Int64)), .second] [(.long (fR (fMin ((p1.toInt64) &&& (2147483647 : Int64)) ((p2.toInt64) &&& (2147483647 : Int64))) (-1 : Int64) (3 : Int32) ((b2 &&& (1 : Int32)) &&& (1 : Int32))))] _
            refine own_go (fun t₀ k₀ => XS.lload X74.here hx rfl (Jvm.hb hby at_207) rfl k₀) ?_
            show Gm p e below T74 m 209 #[iv p0, iv p1, iv p2, iv p3, iv k, iv b2, rv r12, lv ((k.toInt64) + (0 : Int64)), .second, lv ((p1.toInt64) &&& (2147483647 : Int64)), .second, lv ((p2.toInt64) &&& (2147483647 : Int64)), .second, lv (fMin ((p1.toInt64) &&& (2147483647 : Int64)) ((p2.toInt64) &&& (2147483647 : Int64))), .second, iv b70, lv (-1 : Int64), .second, lv ((((fMin ((p1.toInt64) &&& (2147483647 : Int64)) ((p2.toInt64) &&& (2147483647 : Int64))) + (1 : Int64)) * ((k.toInt64) + (0 : Int64))) + (2 : Int64)), .second] [(.long ((((fMin ((p1.toInt64) &&& (2147483647 : Int64)) ((p2.toInt64) &&& (2147483647 : Int64))) + (1 : Int64)) * ((k.toInt64) + (0 : Int64))) + (2 : Int64))), (.long (fR (fMin ((p1.toInt64) &&& (2147483647 : Int64)) ((p2.toInt64) &&& (2147483647 : Int64))) (-1 : Int64) (3 : Int32) ((b2 &&& (1 : Int32)) &&& (1 : Int32))))] _
            refine own_go (fun t₀ k₀ => XT.lcmp X74.here hx rfl (Jvm.hb hby at_209) rfl k₀) ?_
            show Gm p e below T74 m 210 #[iv p0, iv p1, iv p2, iv p3, iv k, iv b2, rv r12, lv ((k.toInt64) + (0 : Int64)), .second, lv ((p1.toInt64) &&& (2147483647 : Int64)), .second, lv ((p2.toInt64) &&& (2147483647 : Int64)), .second, lv (fMin ((p1.toInt64) &&& (2147483647 : Int64)) ((p2.toInt64) &&& (2147483647 : Int64))), .second, iv b70, lv (-1 : Int64), .second, lv ((((fMin ((p1.toInt64) &&& (2147483647 : Int64)) ((p2.toInt64) &&& (2147483647 : Int64))) + (1 : Int64)) * ((k.toInt64) + (0 : Int64))) + (2 : Int64)), .second] [(.int (XT.cmpL (fR (fMin ((p1.toInt64) &&& (2147483647 : Int64)) ((p2.toInt64) &&& (2147483647 : Int64))) (-1 : Int64) (3 : Int32) ((b2 &&& (1 : Int32)) &&& (1 : Int32))) ((((fMin ((p1.toInt64) &&& (2147483647 : Int64)) ((p2.toInt64) &&& (2147483647 : Int64))) + (1 : Int64)) * ((k.toInt64) + (0 : Int64))) + (2 : Int64))))] _
            refine own_go (fun t₀ k₀ => XS.ifNo X74.here hx rfl (Jvm.hb hby at_210) rfl (XT.ll_ne_f (own_fin _ _ _ _ ((k.toInt64) + (0 : Int64)) _ (by rw [hk, if_pos (by rw [c68]; rfl)]; decide) (by rw [if_pos (by decide)]; try rfl))) k₀) ?_
            show Gm p e below T74 m 213 #[iv p0, iv p1, iv p2, iv p3, iv k, iv b2, rv r12, lv ((k.toInt64) + (0 : Int64)), .second, lv ((p1.toInt64) &&& (2147483647 : Int64)), .second, lv ((p2.toInt64) &&& (2147483647 : Int64)), .second, lv (fMin ((p1.toInt64) &&& (2147483647 : Int64)) ((p2.toInt64) &&& (2147483647 : Int64))), .second, iv b70, lv (-1 : Int64), .second, lv ((((fMin ((p1.toInt64) &&& (2147483647 : Int64)) ((p2.toInt64) &&& (2147483647 : Int64))) + (1 : Int64)) * ((k.toInt64) + (0 : Int64))) + (2 : Int64)), .second] [] _
            refine own_go (fun t₀ k₀ => XS.iconst X74.here hx rfl (Jvm.hb hby at_213) k₀) ?_
            show Gm p e below T74 m 214 #[iv p0, iv p1, iv p2, iv p3, iv k, iv b2, rv r12, lv ((k.toInt64) + (0 : Int64)), .second, lv ((p1.toInt64) &&& (2147483647 : Int64)), .second, lv ((p2.toInt64) &&& (2147483647 : Int64)), .second, lv (fMin ((p1.toInt64) &&& (2147483647 : Int64)) ((p2.toInt64) &&& (2147483647 : Int64))), .second, iv b70, lv (-1 : Int64), .second, lv ((((fMin ((p1.toInt64) &&& (2147483647 : Int64)) ((p2.toInt64) &&& (2147483647 : Int64))) + (1 : Int64)) * ((k.toInt64) + (0 : Int64))) + (2 : Int64)), .second] [(.int (1 : Int32))] _
            refine own_go (fun t₀ k₀ => XS.goto X74.here hx rfl (pc0 := 214) (pc' := 218) rfl (Jvm.hb hby at_214) (by decide) (by decide) k₀) ?_
            show Gm p e below T74 m 218 #[iv p0, iv p1, iv p2, iv p3, iv k, iv b2, rv r12, lv ((k.toInt64) + (0 : Int64)), .second, lv ((p1.toInt64) &&& (2147483647 : Int64)), .second, lv ((p2.toInt64) &&& (2147483647 : Int64)), .second, lv (fMin ((p1.toInt64) &&& (2147483647 : Int64)) ((p2.toInt64) &&& (2147483647 : Int64))), .second, iv b70, lv (-1 : Int64), .second, lv ((((fMin ((p1.toInt64) &&& (2147483647 : Int64)) ((p2.toInt64) &&& (2147483647 : Int64))) + (1 : Int64)) * ((k.toInt64) + (0 : Int64))) + (2 : Int64)), .second] [(.int (1 : Int32))] _
            exact own_retI X74 hx hlk (t := .boolean) Bd.returns rfl (by simp) (Jvm.hb hby at_218) e74 ⟨rfl, N74⟩ (by decide) (by decide)
        · have hfork := trivial
          refine own_go (fun t₀ k₀ => XS.ifNo X67.here hx rfl (Jvm.hb hby at_96) rfl (XT.i0_eq_f c68) k₀) ?_
          show Gm p e below T67 m 99 #[iv p0, iv p1, iv p2, iv p3, iv k, iv b2, rv r12, .unset, .unset, .unset, .unset, .unset, .unset, .unset, .unset, .unset, .unset, .unset, .unset, .unset] [(.long (k.toInt64))] _
          refine own_go (fun t₀ k₀ => X67.ldc2J hx hown (mvT hZ (hw _ (List.mem_of_getElem? (i := 14) rfl))) rfl (Jvm.hb hby at_99) k₀) ?_
          show Gm p e below T67 m 102 #[iv p0, iv p1, iv p2, iv p3, iv k, iv b2, rv r12, .unset, .unset, .unset, .unset, .unset, .unset, .unset, .unset, .unset, .unset, .unset, .unset, .unset] [(.long (3 : Int64)), (.long (k.toInt64))] _
          refine own_go (fun t₀ k₀ => XS.goto X67.here hx rfl (pc0 := 102) (pc' := 106) rfl (Jvm.hb hby at_102) (by decide) (by decide) k₀) ?_
          show Gm p e below T67 m 106 #[iv p0, iv p1, iv p2, iv p3, iv k, iv b2, rv r12, .unset, .unset, .unset, .unset, .unset, .unset, .unset, .unset, .unset, .unset, .unset, .unset, .unset] [(.long (3 : Int64)), (.long (k.toInt64))] _
          refine own_go (fun t₀ k₀ => XS.ladd X67.here hx rfl (Jvm.hb hby at_106) rfl k₀) ?_
          show Gm p e below T67 m 107 #[iv p0, iv p1, iv p2, iv p3, iv k, iv b2, rv r12, .unset, .unset, .unset, .unset, .unset, .unset, .unset, .unset, .unset, .unset, .unset, .unset, .unset] [(.long ((k.toInt64) + (3 : Int64)))] _
          refine own_go (fun t₀ k₀ => XS.lstore X67.here hx rfl (Jvm.hb hby at_107) rfl (l' := #[iv p0, iv p1, iv p2, iv p3, iv k, iv b2, rv r12, lv ((k.toInt64) + (3 : Int64)), .second, .unset, .unset, .unset, .unset, .unset, .unset, .unset, .unset, .unset, .unset, .unset]) rfl k₀) ?_
          show Gm p e below T67 m 109 #[iv p0, iv p1, iv p2, iv p3, iv k, iv b2, rv r12, lv ((k.toInt64) + (3 : Int64)), .second, .unset, .unset, .unset, .unset, .unset, .unset, .unset, .unset, .unset, .unset, .unset] [] _
          refine own_go (fun t₀ k₀ => XS.iloadN X67.here hx rfl (Jvm.hb hby at_109) rfl k₀) ?_
          show Gm p e below T67 m 110 #[iv p0, iv p1, iv p2, iv p3, iv k, iv b2, rv r12, lv ((k.toInt64) + (3 : Int64)), .second, .unset, .unset, .unset, .unset, .unset, .unset, .unset, .unset, .unset, .unset, .unset] [(.int p1)] _
          refine own_go (fun t₀ k₀ => XS.i2l X67.here hx rfl (Jvm.hb hby at_110) rfl k₀) ?_
          show Gm p e below T67 m 111 #[iv p0, iv p1, iv p2, iv p3, iv k, iv b2, rv r12, lv ((k.toInt64) + (3 : Int64)), .second, .unset, .unset, .unset, .unset, .unset, .unset, .unset, .unset, .unset, .unset, .unset] [(.long (p1.toInt64))] _
          refine own_go (fun t₀ k₀ => X67.ldc2J hx hown (mvT hZ (hw _ (List.mem_of_getElem? (i := 15) rfl))) rfl (Jvm.hb hby at_111) k₀) ?_
          show Gm p e below T67 m 114 #[iv p0, iv p1, iv p2, iv p3, iv k, iv b2, rv r12, lv ((k.toInt64) + (3 : Int64)), .second, .unset, .unset, .unset, .unset, .unset, .unset, .unset, .unset, .unset, .unset, .unset] [(.long (2147483647 : Int64)), (.long (p1.toInt64))] _
          refine own_go (fun t₀ k₀ => XS.land X67.here hx rfl (Jvm.hb hby at_114) rfl k₀) ?_
          show Gm p e below T67 m 115 #[iv p0, iv p1, iv p2, iv p3, iv k, iv b2, rv r12, lv ((k.toInt64) + (3 : Int64)), .second, .unset, .unset, .unset, .unset, .unset, .unset, .unset, .unset, .unset, .unset, .unset] [(.long ((p1.toInt64) &&& (2147483647 : Int64)))] _
          refine own_go (fun t₀ k₀ => XS.lstore X67.here hx rfl (Jvm.hb hby at_115) rfl (l' := #[iv p0, iv p1, iv p2, iv p3, iv k, iv b2, rv r12, lv ((k.toInt64) + (3 : Int64)), .second, lv ((p1.toInt64) &&& (2147483647 : Int64)), .second, .unset, .unset, .unset, .unset, .unset, .unset, .unset, .unset, .unset]) rfl k₀) ?_
          show Gm p e below T67 m 117 #[iv p0, iv p1, iv p2, iv p3, iv k, iv b2, rv r12, lv ((k.toInt64) + (3 : Int64)), .second, lv ((p1.toInt64) &&& (2147483647 : Int64)), .second, .unset, .unset, .unset, .unset, .unset, .unset, .unset, .unset, .unset] [] _
          refine own_go (fun t₀ k₀ => XS.iloadN X67.here hx rfl (Jvm.hb hby at_117) rfl k₀) ?_
          show Gm p e below T67 m 118 #[iv p0, iv p1, iv p2, iv p3, iv k, iv b2, rv r12, lv ((k.toInt64) + (3 : Int64)), .second, lv ((p1.toInt64) &&& (2147483647 : Int64)), .second, .unset, .unset, .unset, .unset, .unset, .unset, .unset, .unset, .unset] [(.int p2)] _
          refine own_go (fun t₀ k₀ => XS.i2l X67.here hx rfl (Jvm.hb hby at_118) rfl k₀) ?_
          show Gm p e below T67 m 119 #[iv p0, iv p1, iv p2, iv p3, iv k, iv b2, rv r12, lv ((k.toInt64) + (3 : Int64)), .second, lv ((p1.toInt64) &&& (2147483647 : Int64)), .second, .unset, .unset, .unset, .unset, .unset, .unset, .unset, .unset, .unset] [(.long (p2.toInt64))] _
          refine own_go (fun t₀ k₀ => X67.ldc2J hx hown (mvT hZ (hw _ (List.mem_of_getElem? (i := 15) rfl))) rfl (Jvm.hb hby at_119) k₀) ?_
          show Gm p e below T67 m 122 #[iv p0, iv p1, iv p2, iv p3, iv k, iv b2, rv r12, lv ((k.toInt64) + (3 : Int64)), .second, lv ((p1.toInt64) &&& (2147483647 : Int64)), .second, .unset, .unset, .unset, .unset, .unset, .unset, .unset, .unset, .unset] [(.long (2147483647 : Int64)), (.long (p2.toInt64))] _
          refine own_go (fun t₀ k₀ => XS.land X67.here hx rfl (Jvm.hb hby at_122) rfl k₀) ?_
          show Gm p e below T67 m 123 #[iv p0, iv p1, iv p2, iv p3, iv k, iv b2, rv r12, lv ((k.toInt64) + (3 : Int64)), .second, lv ((p1.toInt64) &&& (2147483647 : Int64)), .second, .unset, .unset, .unset, .unset, .unset, .unset, .unset, .unset, .unset] [(.long ((p2.toInt64) &&& (2147483647 : Int64)))] _
          refine own_go (fun t₀ k₀ => XS.lstore X67.here hx rfl (Jvm.hb hby at_123) rfl (l' := #[iv p0, iv p1, iv p2, iv p3, iv k, iv b2, rv r12, lv ((k.toInt64) + (3 : Int64)), .second, lv ((p1.toInt64) &&& (2147483647 : Int64)), .second, lv ((p2.toInt64) &&& (2147483647 : Int64)), .second, .unset, .unset, .unset, .unset, .unset, .unset, .unset]) rfl k₀) ?_
          have hp := own_p p1.toInt64
          have hq := own_p p2.toInt64
          show Gm p e below T67 m 125 #[iv p0, iv p1, iv p2, iv p3, iv k, iv b2, rv r12, lv ((k.toInt64) + (3 : Int64)), .second, lv ((p1.toInt64) &&& (2147483647 : Int64)), .second, lv ((p2.toInt64) &&& (2147483647 : Int64)), .second, .unset, .unset, .unset, .unset, .unset, .unset, .unset] [] _
          refine own_go (fun t₀ k₀ => XS.lload X67.here hx rfl (Jvm.hb hby at_125) rfl k₀) ?_
          show Gm p e below T67 m 127 #[iv p0, iv p1, iv p2, iv p3, iv k, iv b2, rv r12, lv ((k.toInt64) + (3 : Int64)), .second, lv ((p1.toInt64) &&& (2147483647 : Int64)), .second, lv ((p2.toInt64) &&& (2147483647 : Int64)), .second, .unset, .unset, .unset, .unset, .unset, .unset, .unset] [(.long ((p1.toInt64) &&& (2147483647 : Int64)))] _
          refine own_go (fun t₀ k₀ => XS.lload X67.here hx rfl (Jvm.hb hby at_127) rfl k₀) ?_
          show Gm p e below T67 m 129 #[iv p0, iv p1, iv p2, iv p3, iv k, iv b2, rv r12, lv ((k.toInt64) + (3 : Int64)), .second, lv ((p1.toInt64) &&& (2147483647 : Int64)), .second, lv ((p2.toInt64) &&& (2147483647 : Int64)), .second, .unset, .unset, .unset, .unset, .unset, .unset, .unset] [(.long ((p2.toInt64) &&& (2147483647 : Int64))), (.long ((p1.toInt64) &&& (2147483647 : Int64)))] _
          obtain ⟨_, _, ⟨T75, L75, k75, n75⟩, -, X75, ⟨Lc75, hQ75, l75, y75, z75⟩, st75⟩ := Jvm.LawKit.callS X67 hx (y := (⟨"java/lang/Math", "min", "(JJ)J"⟩ : MethodName)) hown (mvT hZ (hw _ (List.mem_of_getElem? (i := 16) rfl))) (mvT hZ (hw _ (List.mem_of_getElem? (i := 17) rfl))) (mvT hZ (hw _ (List.mem_of_getElem? (i := 18) rfl))) (mvT hZ (hw _ (List.mem_of_getElem? (i := 19) rfl))) (by decide) (backOf (W := 0) (rm3 l Z a0 hw [] ((p1.toInt64) &&& (2147483647 : Int64)) ((p2.toInt64) &&& (2147483647 : Int64)) T67.heap n0 Z67) hZ (hw _ (List.mem_of_getElem? (i := 19) rfl)) (hw _ (List.mem_of_getElem? (i := 18) rfl)) (by decide) (by decide)) (g := (mkF m 129 #[iv p0, iv p1, iv p2, iv p3, iv k, iv b2, rv r12, lv ((k.toInt64) + (3 : Int64)), .second, lv ((p1.toInt64) &&& (2147483647 : Int64)), .second, lv ((p2.toInt64) &&& (2147483647 : Int64)), .second, .unset, .unset, .unset, .unset, .unset, .unset, .unset] [(.long ((p2.toInt64) &&& (2147483647 : Int64))), (.long ((p1.toInt64) &&& (2147483647 : Int64)))])) rfl (by rw [hml]; rfl) (argsL := [(.long ((p1.toInt64) &&& (2147483647 : Int64))), (.long ((p2.toInt64) &&& (2147483647 : Int64)))]) (rest := []) (lenOf own_pd4 rfl) rfl (by show 2 * 0 + _ ≤ _; exact Nat.le_of_eq rfl) (Jvm.hb hby at_129) (fun _ _ => ⟨rfl, rfl, (by decide : 6 + 0 ≤ _), (by decide : 36 + 0 ≤ _)⟩)
          dsimp only [Pt.U, Pt.locs, Pt.cells, Pt.slots] at X75 l75 y75 z75 st75 hQ75
          subst l75 y75 z75
          obtain ⟨rfl, Nq75, eq75⟩ := hQ75
          have N75 := Fr.app N67 Nq75
          have e75 : T75.heap = T67.heap := eq75
          refine own_go st75 ?_
          show Gm p e below T75 m 132 #[iv p0, iv p1, iv p2, iv p3, iv k, iv b2, rv r12, lv ((k.toInt64) + (3 : Int64)), .second, lv ((p1.toInt64) &&& (2147483647 : Int64)), .second, lv ((p2.toInt64) &&& (2147483647 : Int64)), .second, .unset, .unset, .unset, .unset, .unset, .unset, .unset] [(.long (fMin ((p1.toInt64) &&& (2147483647 : Int64)) ((p2.toInt64) &&& (2147483647 : Int64))))] _
          refine own_go (fun t₀ k₀ => XS.lstore X75.here hx rfl (Jvm.hb hby at_132) rfl (l' := #[iv p0, iv p1, iv p2, iv p3, iv k, iv b2, rv r12, lv ((k.toInt64) + (3 : Int64)), .second, lv ((p1.toInt64) &&& (2147483647 : Int64)), .second, lv ((p2.toInt64) &&& (2147483647 : Int64)), .second, lv (fMin ((p1.toInt64) &&& (2147483647 : Int64)) ((p2.toInt64) &&& (2147483647 : Int64))), .second, .unset, .unset, .unset, .unset, .unset]) rfl k₀) ?_
          show Gm p e below T75 m 134 #[iv p0, iv p1, iv p2, iv p3, iv k, iv b2, rv r12, lv ((k.toInt64) + (3 : Int64)), .second, lv ((p1.toInt64) &&& (2147483647 : Int64)), .second, lv ((p2.toInt64) &&& (2147483647 : Int64)), .second, lv (fMin ((p1.toInt64) &&& (2147483647 : Int64)) ((p2.toInt64) &&& (2147483647 : Int64))), .second, .unset, .unset, .unset, .unset, .unset] [] _
          refine own_go (fun t₀ k₀ => XS.iloadN X75.here hx rfl (Jvm.hb hby at_134) rfl k₀) ?_
          show Gm p e below T75 m 135 #[iv p0, iv p1, iv p2, iv p3, iv k, iv b2, rv r12, lv ((k.toInt64) + (3 : Int64)), .second, lv ((p1.toInt64) &&& (2147483647 : Int64)), .second, lv ((p2.toInt64) &&& (2147483647 : Int64)), .second, lv (fMin ((p1.toInt64) &&& (2147483647 : Int64)) ((p2.toInt64) &&& (2147483647 : Int64))), .second, .unset, .unset, .unset, .unset, .unset] [(.int p3)] _
          refine own_go (fun t₀ k₀ => XS.iconst X75.here hx rfl (Jvm.hb hby at_135) k₀) ?_
          show Gm p e below T75 m 136 #[iv p0, iv p1, iv p2, iv p3, iv k, iv b2, rv r12, lv ((k.toInt64) + (3 : Int64)), .second, lv ((p1.toInt64) &&& (2147483647 : Int64)), .second, lv ((p2.toInt64) &&& (2147483647 : Int64)), .second, lv (fMin ((p1.toInt64) &&& (2147483647 : Int64)) ((p2.toInt64) &&& (2147483647 : Int64))), .second, .unset, .unset, .unset, .unset, .unset] [(.int (1 : Int32)), (.int p3)] _
          refine own_go (fun t₀ k₀ => XS.iand X75.here hx rfl (Jvm.hb hby at_136) rfl k₀) ?_
          show Gm p e below T75 m 137 #[iv p0, iv p1, iv p2, iv p3, iv k, iv b2, rv r12, lv ((k.toInt64) + (3 : Int64)), .second, lv ((p1.toInt64) &&& (2147483647 : Int64)), .second, lv ((p2.toInt64) &&& (2147483647 : Int64)), .second, lv (fMin ((p1.toInt64) &&& (2147483647 : Int64)) ((p2.toInt64) &&& (2147483647 : Int64))), .second, .unset, .unset, .unset, .unset, .unset] [(.int (p3 &&& (1 : Int32)))] _
          obtain ⟨b76, hb76, k76⟩ : ∃ z : Int32, z = (if (p3 &&& (1 : Int32)) = (0 : Int32) then (0 : Int32) else (1 : Int32)) ∧ ∀ t, Steps p.tables e below (T75.setTop (mkF m 145 #[iv p0, iv p1, iv p2, iv p3, iv k, iv b2, rv r12, lv ((k.toInt64) + (3 : Int64)), .second, lv ((p1.toInt64) &&& (2147483647 : Int64)), .second, lv ((p2.toInt64) &&& (2147483647 : Int64)), .second, lv (fMin ((p1.toInt64) &&& (2147483647 : Int64)) ((p2.toInt64) &&& (2147483647 : Int64))), .second, .unset, .unset, .unset, .unset, .unset] [(.int z)])) t → Steps p.tables e below (T75.setTop (mkF m 137 #[iv p0, iv p1, iv p2, iv p3, iv k, iv b2, rv r12, lv ((k.toInt64) + (3 : Int64)), .second, lv ((p1.toInt64) &&& (2147483647 : Int64)), .second, lv ((p2.toInt64) &&& (2147483647 : Int64)), .second, lv (fMin ((p1.toInt64) &&& (2147483647 : Int64)) ((p2.toInt64) &&& (2147483647 : Int64))), .second, .unset, .unset, .unset, .unset, .unset] [(.int (p3 &&& (1 : Int32)))])) t := by
            by_cases hq : (p3 &&& (1 : Int32)) = (0 : Int32)
            · refine ⟨(0 : Int32), by rw [if_pos hq], fun t₀ k₀ => ?_⟩
              refine XS.ifYes X75.here hx rfl (pc0 := 137) (pc' := 144) rfl (Jvm.hb hby at_137) rfl (XT.i0_eq_t hq) (by decide) (by decide) ?_
              refine XS.iconst X75.here hx rfl (Jvm.hb hby at_144) ?_
              exact k₀
            · refine ⟨(1 : Int32), by rw [if_neg hq], fun t₀ k₀ => ?_⟩
              refine XS.ifNo X75.here hx rfl (Jvm.hb hby at_137) rfl (XT.i0_eq_f hq) ?_
              refine XS.iconst X75.here hx rfl (Jvm.hb hby at_140) ?_
              refine XS.goto X75.here hx rfl (pc0 := 141) (pc' := 145) rfl (Jvm.hb hby at_141) (by decide) (by decide) ?_
              exact k₀
          refine own_go k76 ?_
          show Gm p e below T75 m 145 #[iv p0, iv p1, iv p2, iv p3, iv k, iv b2, rv r12, lv ((k.toInt64) + (3 : Int64)), .second, lv ((p1.toInt64) &&& (2147483647 : Int64)), .second, lv ((p2.toInt64) &&& (2147483647 : Int64)), .second, lv (fMin ((p1.toInt64) &&& (2147483647 : Int64)) ((p2.toInt64) &&& (2147483647 : Int64))), .second, .unset, .unset, .unset, .unset, .unset] [(.int b76)] _
          refine own_go (fun t₀ k₀ => XS.istore X75.here hx rfl (Jvm.hb hby at_145) rfl (l' := #[iv p0, iv p1, iv p2, iv p3, iv k, iv b2, rv r12, lv ((k.toInt64) + (3 : Int64)), .second, lv ((p1.toInt64) &&& (2147483647 : Int64)), .second, lv ((p2.toInt64) &&& (2147483647 : Int64)), .second, lv (fMin ((p1.toInt64) &&& (2147483647 : Int64)) ((p2.toInt64) &&& (2147483647 : Int64))), .second, iv b76, .unset, .unset, .unset, .unset]) rfl k₀) ?_
          show Gm p e below T75 m 147 #[iv p0, iv p1, iv p2, iv p3, iv k, iv b2, rv r12, lv ((k.toInt64) + (3 : Int64)), .second, lv ((p1.toInt64) &&& (2147483647 : Int64)), .second, lv ((p2.toInt64) &&& (2147483647 : Int64)), .second, lv (fMin ((p1.toInt64) &&& (2147483647 : Int64)) ((p2.toInt64) &&& (2147483647 : Int64))), .second, iv b76, .unset, .unset, .unset, .unset] [] _
          refine own_go (fun t₀ k₀ => XS.iload X75.here hx rfl (Jvm.hb hby at_147) rfl k₀) ?_
          show Gm p e below T75 m 149 #[iv p0, iv p1, iv p2, iv p3, iv k, iv b2, rv r12, lv ((k.toInt64) + (3 : Int64)), .second, lv ((p1.toInt64) &&& (2147483647 : Int64)), .second, lv ((p2.toInt64) &&& (2147483647 : Int64)), .second, lv (fMin ((p1.toInt64) &&& (2147483647 : Int64)) ((p2.toInt64) &&& (2147483647 : Int64))), .second, iv b76, .unset, .unset, .unset, .unset] [(.int b76)] _
          by_cases c77 : b76 = (0 : Int32)
          · have hfork := trivial
            refine own_go (fun t₀ k₀ => XS.ifYes X75.here hx rfl (pc0 := 149) (pc' := 158) rfl (Jvm.hb hby at_149) rfl (XT.i0_eq_t c77) (by decide) (by decide) k₀) ?_
            show Gm p e below T75 m 158 #[iv p0, iv p1, iv p2, iv p3, iv k, iv b2, rv r12, lv ((k.toInt64) + (3 : Int64)), .second, lv ((p1.toInt64) &&& (2147483647 : Int64)), .second, lv ((p2.toInt64) &&& (2147483647 : Int64)), .second, lv (fMin ((p1.toInt64) &&& (2147483647 : Int64)) ((p2.toInt64) &&& (2147483647 : Int64))), .second, iv b76, .unset, .unset, .unset, .unset] [] _
            refine own_go (fun t₀ k₀ => XS.lload X75.here hx rfl (Jvm.hb hby at_158) rfl k₀) ?_
            show Gm p e below T75 m 160 #[iv p0, iv p1, iv p2, iv p3, iv k, iv b2, rv r12, lv ((k.toInt64) + (3 : Int64)), .second, lv ((p1.toInt64) &&& (2147483647 : Int64)), .second, lv ((p2.toInt64) &&& (2147483647 : Int64)), .second, lv (fMin ((p1.toInt64) &&& (2147483647 : Int64)) ((p2.toInt64) &&& (2147483647 : Int64))), .second, iv b76, .unset, .unset, .unset, .unset] [(.long ((p1.toInt64) &&& (2147483647 : Int64)))] _
            refine own_go (fun t₀ k₀ => XS.lload X75.here hx rfl (Jvm.hb hby at_160) rfl k₀) ?_
            show Gm p e below T75 m 162 #[iv p0, iv p1, iv p2, iv p3, iv k, iv b2, rv r12, lv ((k.toInt64) + (3 : Int64)), .second, lv ((p1.toInt64) &&& (2147483647 : Int64)), .second, lv ((p2.toInt64) &&& (2147483647 : Int64)), .second, lv (fMin ((p1.toInt64) &&& (2147483647 : Int64)) ((p2.toInt64) &&& (2147483647 : Int64))), .second, iv b76, .unset, .unset, .unset, .unset] [(.long ((p2.toInt64) &&& (2147483647 : Int64))), (.long ((p1.toInt64) &&& (2147483647 : Int64)))] _
            obtain ⟨_, _, ⟨T78, L78, k78, n78⟩, -, X78, ⟨Lc78, hQ78, l78, y78, z78⟩, st78⟩ := Jvm.LawKit.callS X75 hx (y := (⟨"java/lang/Math", "max", "(JJ)J"⟩ : MethodName)) hown (mvT hZ (hw _ (List.mem_of_getElem? (i := 30) rfl))) (mvT hZ (hw _ (List.mem_of_getElem? (i := 31) rfl))) (mvT hZ (hw _ (List.mem_of_getElem? (i := 18) rfl))) (mvT hZ (hw _ (List.mem_of_getElem? (i := 32) rfl))) (by decide) (backOf (W := 0) (rm5 l Z a0 hw [] ((p1.toInt64) &&& (2147483647 : Int64)) ((p2.toInt64) &&& (2147483647 : Int64)) T67.heap n0 Z67) hZ (hw _ (List.mem_of_getElem? (i := 32) rfl)) (hw _ (List.mem_of_getElem? (i := 18) rfl)) (by decide) (by decide)) (g := (mkF m 162 #[iv p0, iv p1, iv p2, iv p3, iv k, iv b2, rv r12, lv ((k.toInt64) + (3 : Int64)), .second, lv ((p1.toInt64) &&& (2147483647 : Int64)), .second, lv ((p2.toInt64) &&& (2147483647 : Int64)), .second, lv (fMin ((p1.toInt64) &&& (2147483647 : Int64)) ((p2.toInt64) &&& (2147483647 : Int64))), .second, iv b76, .unset, .unset, .unset, .unset] [(.long ((p2.toInt64) &&& (2147483647 : Int64))), (.long ((p1.toInt64) &&& (2147483647 : Int64)))])) rfl (by rw [hml]; rfl) (argsL := [(.long ((p1.toInt64) &&& (2147483647 : Int64))), (.long ((p2.toInt64) &&& (2147483647 : Int64)))]) (rest := []) (lenOf own_pd4 rfl) rfl (by show 2 * 0 + _ ≤ _; exact Nat.le_of_eq rfl) (Jvm.hb hby at_162) (fun _ _ => ⟨rfl, e75, (by decide : 6 + 0 ≤ _), (by decide : 36 + 0 ≤ _)⟩)
            dsimp only [Pt.U, Pt.locs, Pt.cells, Pt.slots] at X78 l78 y78 z78 st78 hQ78
            subst l78 y78 z78
            obtain ⟨rfl, Nq78, eq78⟩ := hQ78
            have N78 := Fr.app N75 Nq78
            have e78 : T78.heap = T67.heap := eq78
            refine own_go st78 ?_
            show Gm p e below T78 m 165 #[iv p0, iv p1, iv p2, iv p3, iv k, iv b2, rv r12, lv ((k.toInt64) + (3 : Int64)), .second, lv ((p1.toInt64) &&& (2147483647 : Int64)), .second, lv ((p2.toInt64) &&& (2147483647 : Int64)), .second, lv (fMin ((p1.toInt64) &&& (2147483647 : Int64)) ((p2.toInt64) &&& (2147483647 : Int64))), .second, iv b76, .unset, .unset, .unset, .unset] [(.long (fMax ((p1.toInt64) &&& (2147483647 : Int64)) ((p2.toInt64) &&& (2147483647 : Int64))))] _
            refine own_go (fun t₀ k₀ => XS.lstore X78.here hx rfl (Jvm.hb hby at_165) rfl (l' := #[iv p0, iv p1, iv p2, iv p3, iv k, iv b2, rv r12, lv ((k.toInt64) + (3 : Int64)), .second, lv ((p1.toInt64) &&& (2147483647 : Int64)), .second, lv ((p2.toInt64) &&& (2147483647 : Int64)), .second, lv (fMin ((p1.toInt64) &&& (2147483647 : Int64)) ((p2.toInt64) &&& (2147483647 : Int64))), .second, iv b76, lv (fMax ((p1.toInt64) &&& (2147483647 : Int64)) ((p2.toInt64) &&& (2147483647 : Int64))), .second, .unset, .unset]) rfl k₀) ?_
            show Gm p e below T78 m 167 #[iv p0, iv p1, iv p2, iv p3, iv k, iv b2, rv r12, lv ((k.toInt64) + (3 : Int64)), .second, lv ((p1.toInt64) &&& (2147483647 : Int64)), .second, lv ((p2.toInt64) &&& (2147483647 : Int64)), .second, lv (fMin ((p1.toInt64) &&& (2147483647 : Int64)) ((p2.toInt64) &&& (2147483647 : Int64))), .second, iv b76, lv (fMax ((p1.toInt64) &&& (2147483647 : Int64)) ((p2.toInt64) &&& (2147483647 : Int64))), .second, .unset, .unset] [] _
            refine own_go (fun t₀ k₀ => XS.iload X78.here hx rfl (Jvm.hb hby at_167) rfl k₀) ?_
            show Gm p e below T78 m 169 #[iv p0, iv p1, iv p2, iv p3, iv k, iv b2, rv r12, lv ((k.toInt64) + (3 : Int64)), .second, lv ((p1.toInt64) &&& (2147483647 : Int64)), .second, lv ((p2.toInt64) &&& (2147483647 : Int64)), .second, lv (fMin ((p1.toInt64) &&& (2147483647 : Int64)) ((p2.toInt64) &&& (2147483647 : Int64))), .second, iv b76, lv (fMax ((p1.toInt64) &&& (2147483647 : Int64)) ((p2.toInt64) &&& (2147483647 : Int64))), .second, .unset, .unset] [(.int b76)] _
            refine own_go (fun t₀ k₀ => XS.ifYes X78.here hx rfl (pc0 := 169) (pc' := 186) rfl (Jvm.hb hby at_169) rfl (XT.i0_eq_t c77) (by decide) (by decide) k₀) ?_
            show Gm p e below T78 m 186 #[iv p0, iv p1, iv p2, iv p3, iv k, iv b2, rv r12, lv ((k.toInt64) + (3 : Int64)), .second, lv ((p1.toInt64) &&& (2147483647 : Int64)), .second, lv ((p2.toInt64) &&& (2147483647 : Int64)), .second, lv (fMin ((p1.toInt64) &&& (2147483647 : Int64)) ((p2.toInt64) &&& (2147483647 : Int64))), .second, iv b76, lv (fMax ((p1.toInt64) &&& (2147483647 : Int64)) ((p2.toInt64) &&& (2147483647 : Int64))), .second, .unset, .unset] [] _
            refine own_go (fun t₀ k₀ => XS.lload X78.here hx rfl (Jvm.hb hby at_186) rfl k₀) ?_
            show Gm p e below T78 m 188 #[iv p0, iv p1, iv p2, iv p3, iv k, iv b2, rv r12, lv ((k.toInt64) + (3 : Int64)), .second, lv ((p1.toInt64) &&& (2147483647 : Int64)), .second, lv ((p2.toInt64) &&& (2147483647 : Int64)), .second, lv (fMin ((p1.toInt64) &&& (2147483647 : Int64)) ((p2.toInt64) &&& (2147483647 : Int64))), .second, iv b76, lv (fMax ((p1.toInt64) &&& (2147483647 : Int64)) ((p2.toInt64) &&& (2147483647 : Int64))), .second, .unset, .unset] [(.long (fMax ((p1.toInt64) &&& (2147483647 : Int64)) ((p2.toInt64) &&& (2147483647 : Int64))))] _
            refine own_go (fun t₀ k₀ => XS.lload X78.here hx rfl (Jvm.hb hby at_188) rfl k₀) ?_
            show Gm p e below T78 m 190 #[iv p0, iv p1, iv p2, iv p3, iv k, iv b2, rv r12, lv ((k.toInt64) + (3 : Int64)), .second, lv ((p1.toInt64) &&& (2147483647 : Int64)), .second, lv ((p2.toInt64) &&& (2147483647 : Int64)), .second, lv (fMin ((p1.toInt64) &&& (2147483647 : Int64)) ((p2.toInt64) &&& (2147483647 : Int64))), .second, iv b76, lv (fMax ((p1.toInt64) &&& (2147483647 : Int64)) ((p2.toInt64) &&& (2147483647 : Int64))), .second, .unset, .unset] [(.long ((k.toInt64) + (3 : Int64))), (.long (fMax ((p1.toInt64) &&& (2147483647 : Int64)) ((p2.toInt64) &&& (2147483647 : Int64))))] _
            refine own_go (fun t₀ k₀ => XS.lconst X78.here hx rfl (Jvm.hb hby at_190) k₀) ?_
            show Gm p e below T78 m 191 #[iv p0, iv p1, iv p2, iv p3, iv k, iv b2, rv r12, lv ((k.toInt64) + (3 : Int64)), .second, lv ((p1.toInt64) &&& (2147483647 : Int64)), .second, lv ((p2.toInt64) &&& (2147483647 : Int64)), .second, lv (fMin ((p1.toInt64) &&& (2147483647 : Int64)) ((p2.toInt64) &&& (2147483647 : Int64))), .second, iv b76, lv (fMax ((p1.toInt64) &&& (2147483647 : Int64)) ((p2.toInt64) &&& (2147483647 : Int64))), .second, .unset, .unset] [(.long (1 : Int64)), (.long ((k.toInt64) + (3 : Int64))), (.long (fMax ((p1.toInt64) &&& (2147483647 : Int64)) ((p2.toInt64) &&& (2147483647 : Int64))))] _
            refine own_go (fun t₀ k₀ => XS.ladd X78.here hx rfl (Jvm.hb hby at_191) rfl k₀) ?_
            show Gm p e below T78 m 192 #[iv p0, iv p1, iv p2, iv p3, iv k, iv b2, rv r12, lv ((k.toInt64) + (3 : Int64)), .second, lv ((p1.toInt64) &&& (2147483647 : Int64)), .second, lv ((p2.toInt64) &&& (2147483647 : Int64)), .second, lv (fMin ((p1.toInt64) &&& (2147483647 : Int64)) ((p2.toInt64) &&& (2147483647 : Int64))), .second, iv b76, lv (fMax ((p1.toInt64) &&& (2147483647 : Int64)) ((p2.toInt64) &&& (2147483647 : Int64))), .second, .unset, .unset] [(.long (((k.toInt64) + (3 : Int64)) + (1 : Int64))), (.long (fMax ((p1.toInt64) &&& (2147483647 : Int64)) ((p2.toInt64) &&& (2147483647 : Int64))))] _
            refine own_go (fun t₀ k₀ => XS.lmul X78.here hx rfl (Jvm.hb hby at_192) rfl k₀) ?_
            show Gm p e below T78 m 193 #[iv p0, iv p1, iv p2, iv p3, iv k, iv b2, rv r12, lv ((k.toInt64) + (3 : Int64)), .second, lv ((p1.toInt64) &&& (2147483647 : Int64)), .second, lv ((p2.toInt64) &&& (2147483647 : Int64)), .second, lv (fMin ((p1.toInt64) &&& (2147483647 : Int64)) ((p2.toInt64) &&& (2147483647 : Int64))), .second, iv b76, lv (fMax ((p1.toInt64) &&& (2147483647 : Int64)) ((p2.toInt64) &&& (2147483647 : Int64))), .second, .unset, .unset] [(.long ((fMax ((p1.toInt64) &&& (2147483647 : Int64)) ((p2.toInt64) &&& (2147483647 : Int64))) * (((k.toInt64) + (3 : Int64)) + (1 : Int64))))] _
            refine own_go (fun t₀ k₀ => XS.lload X78.here hx rfl (Jvm.hb hby at_193) rfl k₀) ?_
            show Gm p e below T78 m 195 #[iv p0, iv p1, iv p2, iv p3, iv k, iv b2, rv r12, lv ((k.toInt64) + (3 : Int64)), .second, lv ((p1.toInt64) &&& (2147483647 : Int64)), .second, lv ((p2.toInt64) &&& (2147483647 : Int64)), .second, lv (fMin ((p1.toInt64) &&& (2147483647 : Int64)) ((p2.toInt64) &&& (2147483647 : Int64))), .second, iv b76, lv (fMax ((p1.toInt64) &&& (2147483647 : Int64)) ((p2.toInt64) &&& (2147483647 : Int64))), .second, .unset, .unset] [(.long (fMin ((p1.toInt64) &&& (2147483647 : Int64)) ((p2.toInt64) &&& (2147483647 : Int64)))), (.long ((fMax ((p1.toInt64) &&& (2147483647 : Int64)) ((p2.toInt64) &&& (2147483647 : Int64))) * (((k.toInt64) + (3 : Int64)) + (1 : Int64))))] _
            refine own_go (fun t₀ k₀ => XS.lsub X78.here hx rfl (Jvm.hb hby at_195) rfl k₀) ?_
            show Gm p e below T78 m 196 #[iv p0, iv p1, iv p2, iv p3, iv k, iv b2, rv r12, lv ((k.toInt64) + (3 : Int64)), .second, lv ((p1.toInt64) &&& (2147483647 : Int64)), .second, lv ((p2.toInt64) &&& (2147483647 : Int64)), .second, lv (fMin ((p1.toInt64) &&& (2147483647 : Int64)) ((p2.toInt64) &&& (2147483647 : Int64))), .second, iv b76, lv (fMax ((p1.toInt64) &&& (2147483647 : Int64)) ((p2.toInt64) &&& (2147483647 : Int64))), .second, .unset, .unset] [(.long (((fMax ((p1.toInt64) &&& (2147483647 : Int64)) ((p2.toInt64) &&& (2147483647 : Int64))) * (((k.toInt64) + (3 : Int64)) + (1 : Int64))) - (fMin ((p1.toInt64) &&& (2147483647 : Int64)) ((p2.toInt64) &&& (2147483647 : Int64)))))] _
            refine own_go (fun t₀ k₀ => XS.lstore X78.here hx rfl (Jvm.hb hby at_196) rfl (l' := #[iv p0, iv p1, iv p2, iv p3, iv k, iv b2, rv r12, lv ((k.toInt64) + (3 : Int64)), .second, lv ((p1.toInt64) &&& (2147483647 : Int64)), .second, lv ((p2.toInt64) &&& (2147483647 : Int64)), .second, lv (fMin ((p1.toInt64) &&& (2147483647 : Int64)) ((p2.toInt64) &&& (2147483647 : Int64))), .second, iv b76, lv (fMax ((p1.toInt64) &&& (2147483647 : Int64)) ((p2.toInt64) &&& (2147483647 : Int64))), .second, lv (((fMax ((p1.toInt64) &&& (2147483647 : Int64)) ((p2.toInt64) &&& (2147483647 : Int64))) * (((k.toInt64) + (3 : Int64)) + (1 : Int64))) - (fMin ((p1.toInt64) &&& (2147483647 : Int64)) ((p2.toInt64) &&& (2147483647 : Int64)))), .second]) rfl k₀) ?_
            show Gm p e below T78 m 198 #[iv p0, iv p1, iv p2, iv p3, iv k, iv b2, rv r12, lv ((k.toInt64) + (3 : Int64)), .second, lv ((p1.toInt64) &&& (2147483647 : Int64)), .second, lv ((p2.toInt64) &&& (2147483647 : Int64)), .second, lv (fMin ((p1.toInt64) &&& (2147483647 : Int64)) ((p2.toInt64) &&& (2147483647 : Int64))), .second, iv b76, lv (fMax ((p1.toInt64) &&& (2147483647 : Int64)) ((p2.toInt64) &&& (2147483647 : Int64))), .second, lv (((fMax ((p1.toInt64) &&& (2147483647 : Int64)) ((p2.toInt64) &&& (2147483647 : Int64))) * (((k.toInt64) + (3 : Int64)) + (1 : Int64))) - (fMin ((p1.toInt64) &&& (2147483647 : Int64)) ((p2.toInt64) &&& (2147483647 : Int64)))), .second] [] _
            refine own_go (fun t₀ k₀ => XS.aload X78.here hx rfl (Jvm.hb hby at_198) rfl rfl k₀) ?_
            show Gm p e below T78 m 200 #[iv p0, iv p1, iv p2, iv p3, iv k, iv b2, rv r12, lv ((k.toInt64) + (3 : Int64)), .second, lv ((p1.toInt64) &&& (2147483647 : Int64)), .second, lv ((p2.toInt64) &&& (2147483647 : Int64)), .second, lv (fMin ((p1.toInt64) &&& (2147483647 : Int64)) ((p2.toInt64) &&& (2147483647 : Int64))), .second, iv b76, lv (fMax ((p1.toInt64) &&& (2147483647 : Int64)) ((p2.toInt64) &&& (2147483647 : Int64))), .second, lv (((fMax ((p1.toInt64) &&& (2147483647 : Int64)) ((p2.toInt64) &&& (2147483647 : Int64))) * (((k.toInt64) + (3 : Int64)) + (1 : Int64))) - (fMin ((p1.toInt64) &&& (2147483647 : Int64)) ((p2.toInt64) &&& (2147483647 : Int64)))), .second] [(.ref r12)] _
            refine own_go (fun t₀ k₀ => XS.lload X78.here hx rfl (Jvm.hb hby at_200) rfl k₀) ?_
            show Gm p e below T78 m 202 #[iv p0, iv p1, iv p2, iv p3, iv k, iv b2, rv r12, lv ((k.toInt64) + (3 : Int64)), .second, lv ((p1.toInt64) &&& (2147483647 : Int64)), .second, lv ((p2.toInt64) &&& (2147483647 : Int64)), .second, lv (fMin ((p1.toInt64) &&& (2147483647 : Int64)) ((p2.toInt64) &&& (2147483647 : Int64))), .second, iv b76, lv (fMax ((p1.toInt64) &&& (2147483647 : Int64)) ((p2.toInt64) &&& (2147483647 : Int64))), .second, lv (((fMax ((p1.toInt64) &&& (2147483647 : Int64)) ((p2.toInt64) &&& (2147483647 : Int64))) * (((k.toInt64) + (3 : Int64)) + (1 : Int64))) - (fMin ((p1.toInt64) &&& (2147483647 : Int64)) ((p2.toInt64) &&& (2147483647 : Int64)))), .second] [(.long (fMin ((p1.toInt64) &&& (2147483647 : Int64)) ((p2.toInt64) &&& (2147483647 : Int64)))), (.ref r12)] _
            refine own_go (fun t₀ k₀ => XS.lload X78.here hx rfl (Jvm.hb hby at_202) rfl k₀) ?_
            show Gm p e below T78 m 204 #[iv p0, iv p1, iv p2, iv p3, iv k, iv b2, rv r12, lv ((k.toInt64) + (3 : Int64)), .second, lv ((p1.toInt64) &&& (2147483647 : Int64)), .second, lv ((p2.toInt64) &&& (2147483647 : Int64)), .second, lv (fMin ((p1.toInt64) &&& (2147483647 : Int64)) ((p2.toInt64) &&& (2147483647 : Int64))), .second, iv b76, lv (fMax ((p1.toInt64) &&& (2147483647 : Int64)) ((p2.toInt64) &&& (2147483647 : Int64))), .second, lv (((fMax ((p1.toInt64) &&& (2147483647 : Int64)) ((p2.toInt64) &&& (2147483647 : Int64))) * (((k.toInt64) + (3 : Int64)) + (1 : Int64))) - (fMin ((p1.toInt64) &&& (2147483647 : Int64)) ((p2.toInt64) &&& (2147483647 : Int64)))), .second] [(.long (fMax ((p1.toInt64) &&& (2147483647 : Int64)) ((p2.toInt64) &&& (2147483647 : Int64)))), (.long (fMin ((p1.toInt64) &&& (2147483647 : Int64)) ((p2.toInt64) &&& (2147483647 : Int64)))), (.ref r12)] _
            obtain ⟨cq79, kq79, q79a, q79b, q79c⟩ := isOf hZ e78 Ec67
            obtain ⟨_, _, ⟨T79, L79, k79, n79⟩, -, X79, ⟨Lc79, hQ79, l79, y79, z79⟩, st79⟩ := X78.virtualBack hx (y := (⟨"com/example/data_in_bounds/datainbounds/metapath/RegexProgram$Fragment", "repeatedLength", "(JJ)J"⟩ : MethodName)) (z := (⟨"com/example/data_in_bounds/datainbounds/metapath/RegexProgram$Fragment", "repeatedLength", "(JJ)J"⟩ : MethodName)) hown (mvT hZ (hw _ (List.mem_of_getElem? (i := 22) rfl))) (mvT hZ (hw _ (List.mem_of_getElem? (i := 23) rfl))) (notFace_of_selects (args := #[]) (mvT hZ (hw _ (List.mem_of_getElem? (i := 25) rfl)))) (mvT hZ (hw _ (List.mem_of_getElem? (i := 25) rfl))) (mvT hZ (hw _ (List.mem_of_getElem? (i := 24) rfl))) (by decide) (backOf (W := 0) (rm4 l Z a0 hw [] r12 (fMin ((p1.toInt64) &&& (2147483647 : Int64)) ((p2.toInt64) &&& (2147483647 : Int64))) (fMax ((p1.toInt64) &&& (2147483647 : Int64)) ((p2.toInt64) &&& (2147483647 : Int64))) (3 : Int32) ((b2 &&& (1 : Int32)) &&& (1 : Int32)) T67.heap n0 Z67 Flen67 Fnul67) hZ (hw _ (List.mem_of_getElem? (i := 26) rfl)) (hw _ (List.mem_of_getElem? (i := 2) rfl)) (by decide) (by decide)) q79a q79c (g := (mkF m 204 #[iv p0, iv p1, iv p2, iv p3, iv k, iv b2, rv r12, lv ((k.toInt64) + (3 : Int64)), .second, lv ((p1.toInt64) &&& (2147483647 : Int64)), .second, lv ((p2.toInt64) &&& (2147483647 : Int64)), .second, lv (fMin ((p1.toInt64) &&& (2147483647 : Int64)) ((p2.toInt64) &&& (2147483647 : Int64))), .second, iv b76, lv (fMax ((p1.toInt64) &&& (2147483647 : Int64)) ((p2.toInt64) &&& (2147483647 : Int64))), .second, lv (((fMax ((p1.toInt64) &&& (2147483647 : Int64)) ((p2.toInt64) &&& (2147483647 : Int64))) * (((k.toInt64) + (3 : Int64)) + (1 : Int64))) - (fMin ((p1.toInt64) &&& (2147483647 : Int64)) ((p2.toInt64) &&& (2147483647 : Int64)))), .second] [(.long (fMax ((p1.toInt64) &&& (2147483647 : Int64)) ((p2.toInt64) &&& (2147483647 : Int64)))), (.long (fMin ((p1.toInt64) &&& (2147483647 : Int64)) ((p2.toInt64) &&& (2147483647 : Int64)))), (.ref r12)])) rfl (by rw [hml]; rfl) (Steps.refl _) (argsL := [(.long (fMin ((p1.toInt64) &&& (2147483647 : Int64)) ((p2.toInt64) &&& (2147483647 : Int64)))), (.long (fMax ((p1.toInt64) &&& (2147483647 : Int64)) ((p2.toInt64) &&& (2147483647 : Int64))))]) (rest := []) (lenOf own_pd4 rfl) rfl (by show 2 * 0 + _ ≤ _; exact Nat.le_of_eq rfl) (Jvm.hb hby at_204) (fun _ _ => ⟨rfl, e78, (by decide : 6 + 0 ≤ _), (by decide : 36 + 0 ≤ _)⟩)
            dsimp only [Pt.U, Pt.locs, Pt.cells, Pt.slots] at X79 l79 y79 z79 st79 hQ79
            subst l79 y79 z79
            obtain ⟨rfl, Nq79, eq79⟩ := hQ79
            have N79 := Fr.app N78 Nq79
            have e79 : T79.heap = T67.heap := eq79
            refine own_go (fun t k => st79.trans k) ?_
            show Gm p e below T79 m 207 #[iv p0, iv p1, iv p2, iv p3, iv k, iv b2, rv r12, lv ((k.toInt64) + (3 : Int64)), .second, lv ((p1.toInt64) &&& (2147483647 : Int64)), .second, lv ((p2.toInt64) &&& (2147483647 : Int64)), .second, lv (fMin ((p1.toInt64) &&& (2147483647 : Int64)) ((p2.toInt64) &&& (2147483647 : Int64))), .second, iv b76, lv (fMax ((p1.toInt64) &&& (2147483647 : Int64)) ((p2.toInt64) &&& (2147483647 : Int64))), .second, lv (((fMax ((p1.toInt64) &&& (2147483647 : Int64)) ((p2.toInt64) &&& (2147483647 : Int64))) * (((k.toInt64) + (3 : Int64)) + (1 : Int64))) - (fMin ((p1.toInt64) &&& (2147483647 : Int64)) ((p2.toInt64) &&& (2147483647 : Int64)))), .second] [(.long (fR (fMin ((p1.toInt64) &&& (2147483647 : Int64)) ((p2.toInt64) &&& (2147483647 : Int64))) (fMax ((p1.toInt64) &&& (2147483647 : Int64)) ((p2.toInt64) &&& (2147483647 : Int64))) (3 : Int32) ((b2 &&& (1 : Int32)) &&& (1 : Int32))))] _
            refine own_go (fun t₀ k₀ => XS.lload X79.here hx rfl (Jvm.hb hby at_207) rfl k₀) ?_
            show Gm p e below T79 m 209 #[iv p0, iv p1, iv p2, iv p3, iv k, iv b2, rv r12, lv ((k.toInt64) + (3 : Int64)), .second, lv ((p1.toInt64) &&& (2147483647 : Int64)), .second, lv ((p2.toInt64) &&& (2147483647 : Int64)), .second, lv (fMin ((p1.toInt64) &&& (2147483647 : Int64)) ((p2.toInt64) &&& (2147483647 : Int64))), .second, iv b76, lv (fMax ((p1.toInt64) &&& (2147483647 : Int64)) ((p2.toInt64) &&& (2147483647 : Int64))), .second, lv (((fMax ((p1.toInt64) &&& (2147483647 : Int64)) ((p2.toInt64) &&& (2147483647 : Int64))) * (((k.toInt64) + (3 : Int64)) + (1 : Int64))) - (fMin ((p1.toInt64) &&& (2147483647 : Int64)) ((p2.toInt64) &&& (2147483647 : Int64)))), .second] [(.long (((fMax ((p1.toInt64) &&& (2147483647 : Int64)) ((p2.toInt64) &&& (2147483647 : Int64))) * (((k.toInt64) + (3 : Int64)) + (1 : Int64))) - (fMin ((p1.toInt64) &&& (2147483647 : Int64)) ((p2.toInt64) &&& (2147483647 : Int64))))), (.long (fR (fMin ((p1.toInt64) &&& (2147483647 : Int64)) ((p2.toInt64) &&& (2147483647 : Int64))) (fMax ((p1.toInt64) &&& (2147483647 : Int64)) ((p2.toInt64) &&& (2147483647 : Int64))) (3 : Int32) ((b2 &&& (1 : Int32)) &&& (1 : Int32))))] _
            refine own_go (fun t₀ k₀ => XT.lcmp X79.here hx rfl (Jvm.hb hby at_209) rfl k₀) ?_
            show Gm p e below T79 m 210 #[iv p0, iv p1, iv p2, iv p3, iv k, iv b2, rv r12, lv ((k.toInt64) + (3 : Int64)), .second, lv ((p1.toInt64) &&& (2147483647 : Int64)), .second, lv ((p2.toInt64) &&& (2147483647 : Int64)), .second, lv (fMin ((p1.toInt64) &&& (2147483647 : Int64)) ((p2.toInt64) &&& (2147483647 : Int64))), .second, iv b76, lv (fMax ((p1.toInt64) &&& (2147483647 : Int64)) ((p2.toInt64) &&& (2147483647 : Int64))), .second, lv (((fMax ((p1.toInt64) &&& (2147483647 : Int64)) ((p2.toInt64) &&& (2147483647 : Int64))) * (((k.toInt64) + (3 : Int64)) + (1 : Int64))) - (fMin ((p1.toInt64) &&& (2147483647 : Int64)) ((p2.toInt64) &&& (2147483647 : Int64)))), .second] [(.int (XT.cmpL (fR (fMin ((p1.toInt64) &&& (2147483647 : Int64)) ((p2.toInt64) &&& (2147483647 : Int64))) (fMax ((p1.toInt64) &&& (2147483647 : Int64)) ((p2.toInt64) &&& (2147483647 : Int64))) (3 : Int32) ((b2 &&& (1 : Int32)) &&& (1 : Int32))) (((fMax ((p1.toInt64) &&& (2147483647 : Int64)) ((p2.toInt64) &&& (2147483647 : Int64))) * (((k.toInt64) + (3 : Int64)) + (1 : Int64))) - (fMin ((p1.toInt64) &&& (2147483647 : Int64)) ((p2.toInt64) &&& (2147483647 : Int64))))))] _
            refine own_go (fun t₀ k₀ => XS.ifNo X79.here hx rfl (Jvm.hb hby at_210) rfl (XT.ll_ne_f (own_fin _ _ _ _ ((k.toInt64) + (3 : Int64)) _ (by rw [hk, if_neg (own_nz2 hb2 c68)]; decide) (by rw [if_neg (own_max _ _ hp hq)]; try rfl))) k₀) ?_
            show Gm p e below T79 m 213 #[iv p0, iv p1, iv p2, iv p3, iv k, iv b2, rv r12, lv ((k.toInt64) + (3 : Int64)), .second, lv ((p1.toInt64) &&& (2147483647 : Int64)), .second, lv ((p2.toInt64) &&& (2147483647 : Int64)), .second, lv (fMin ((p1.toInt64) &&& (2147483647 : Int64)) ((p2.toInt64) &&& (2147483647 : Int64))), .second, iv b76, lv (fMax ((p1.toInt64) &&& (2147483647 : Int64)) ((p2.toInt64) &&& (2147483647 : Int64))), .second, lv (((fMax ((p1.toInt64) &&& (2147483647 : Int64)) ((p2.toInt64) &&& (2147483647 : Int64))) * (((k.toInt64) + (3 : Int64)) + (1 : Int64))) - (fMin ((p1.toInt64) &&& (2147483647 : Int64)) ((p2.toInt64) &&& (2147483647 : Int64)))), .second] [] _
            refine own_go (fun t₀ k₀ => XS.iconst X79.here hx rfl (Jvm.hb hby at_213) k₀) ?_
            show Gm p e below T79 m 214 #[iv p0, iv p1, iv p2, iv p3, iv k, iv b2, rv r12, lv ((k.toInt64) + (3 : Int64)), .second, lv ((p1.toInt64) &&& (2147483647 : Int64)), .second, lv ((p2.toInt64) &&& (2147483647 : Int64)), .second, lv (fMin ((p1.toInt64) &&& (2147483647 : Int64)) ((p2.toInt64) &&& (2147483647 : Int64))), .second, iv b76, lv (fMax ((p1.toInt64) &&& (2147483647 : Int64)) ((p2.toInt64) &&& (2147483647 : Int64))), .second, lv (((fMax ((p1.toInt64) &&& (2147483647 : Int64)) ((p2.toInt64) &&& (2147483647 : Int64))) * (((k.toInt64) + (3 : Int64)) + (1 : Int64))) - (fMin ((p1.toInt64) &&& (2147483647 : Int64)) ((p2.toInt64) &&& (2147483647 : Int64)))), .second] [(.int (1 : Int32))] _
            refine own_go (fun t₀ k₀ => XS.goto X79.here hx rfl (pc0 := 214) (pc' := 218) rfl (Jvm.hb hby at_214) (by decide) (by decide) k₀) ?_
            show Gm p e below T79 m 218 #[iv p0, iv p1, iv p2, iv p3, iv k, iv b2, rv r12, lv ((k.toInt64) + (3 : Int64)), .second, lv ((p1.toInt64) &&& (2147483647 : Int64)), .second, lv ((p2.toInt64) &&& (2147483647 : Int64)), .second, lv (fMin ((p1.toInt64) &&& (2147483647 : Int64)) ((p2.toInt64) &&& (2147483647 : Int64))), .second, iv b76, lv (fMax ((p1.toInt64) &&& (2147483647 : Int64)) ((p2.toInt64) &&& (2147483647 : Int64))), .second, lv (((fMax ((p1.toInt64) &&& (2147483647 : Int64)) ((p2.toInt64) &&& (2147483647 : Int64))) * (((k.toInt64) + (3 : Int64)) + (1 : Int64))) - (fMin ((p1.toInt64) &&& (2147483647 : Int64)) ((p2.toInt64) &&& (2147483647 : Int64)))), .second] [(.int (1 : Int32))] _
            exact own_retI X79 hx hlk (t := .boolean) Bd.returns rfl (by simp) (Jvm.hb hby at_218) e79 ⟨rfl, N79⟩ (by decide) (by decide)
          · have hfork := trivial
            refine own_go (fun t₀ k₀ => XS.ifNo X75.here hx rfl (Jvm.hb hby at_149) rfl (XT.i0_eq_f c77) k₀) ?_
            show Gm p e below T75 m 152 #[iv p0, iv p1, iv p2, iv p3, iv k, iv b2, rv r12, lv ((k.toInt64) + (3 : Int64)), .second, lv ((p1.toInt64) &&& (2147483647 : Int64)), .second, lv ((p2.toInt64) &&& (2147483647 : Int64)), .second, lv (fMin ((p1.toInt64) &&& (2147483647 : Int64)) ((p2.toInt64) &&& (2147483647 : Int64))), .second, iv b76, .unset, .unset, .unset, .unset] [] _
            refine own_go (fun t₀ k₀ => X75.ldc2J hx hown (mvT hZ (hw _ (List.mem_of_getElem? (i := 20) rfl))) rfl (Jvm.hb hby at_152) k₀) ?_
            show Gm p e below T75 m 155 #[iv p0, iv p1, iv p2, iv p3, iv k, iv b2, rv r12, lv ((k.toInt64) + (3 : Int64)), .second, lv ((p1.toInt64) &&& (2147483647 : Int64)), .second, lv ((p2.toInt64) &&& (2147483647 : Int64)), .second, lv (fMin ((p1.toInt64) &&& (2147483647 : Int64)) ((p2.toInt64) &&& (2147483647 : Int64))), .second, iv b76, .unset, .unset, .unset, .unset] [(.long (-1 : Int64))] _
            refine own_go (fun t₀ k₀ => XS.goto X75.here hx rfl (pc0 := 155) (pc' := 165) rfl (Jvm.hb hby at_155) (by decide) (by decide) k₀) ?_
            show Gm p e below T75 m 165 #[iv p0, iv p1, iv p2, iv p3, iv k, iv b2, rv r12, lv ((k.toInt64) + (3 : Int64)), .second, lv ((p1.toInt64) &&& (2147483647 : Int64)), .second, lv ((p2.toInt64) &&& (2147483647 : Int64)), .second, lv (fMin ((p1.toInt64) &&& (2147483647 : Int64)) ((p2.toInt64) &&& (2147483647 : Int64))), .second, iv b76, .unset, .unset, .unset, .unset] [(.long (-1 : Int64))] _
            refine own_go (fun t₀ k₀ => XS.lstore X75.here hx rfl (Jvm.hb hby at_165) rfl (l' := #[iv p0, iv p1, iv p2, iv p3, iv k, iv b2, rv r12, lv ((k.toInt64) + (3 : Int64)), .second, lv ((p1.toInt64) &&& (2147483647 : Int64)), .second, lv ((p2.toInt64) &&& (2147483647 : Int64)), .second, lv (fMin ((p1.toInt64) &&& (2147483647 : Int64)) ((p2.toInt64) &&& (2147483647 : Int64))), .second, iv b76, lv (-1 : Int64), .second, .unset, .unset]) rfl k₀) ?_
            show Gm p e below T75 m 167 #[iv p0, iv p1, iv p2, iv p3, iv k, iv b2, rv r12, lv ((k.toInt64) + (3 : Int64)), .second, lv ((p1.toInt64) &&& (2147483647 : Int64)), .second, lv ((p2.toInt64) &&& (2147483647 : Int64)), .second, lv (fMin ((p1.toInt64) &&& (2147483647 : Int64)) ((p2.toInt64) &&& (2147483647 : Int64))), .second, iv b76, lv (-1 : Int64), .second, .unset, .unset] [] _
            refine own_go (fun t₀ k₀ => XS.iload X75.here hx rfl (Jvm.hb hby at_167) rfl k₀) ?_
            show Gm p e below T75 m 169 #[iv p0, iv p1, iv p2, iv p3, iv k, iv b2, rv r12, lv ((k.toInt64) + (3 : Int64)), .second, lv ((p1.toInt64) &&& (2147483647 : Int64)), .second, lv ((p2.toInt64) &&& (2147483647 : Int64)), .second, lv (fMin ((p1.toInt64) &&& (2147483647 : Int64)) ((p2.toInt64) &&& (2147483647 : Int64))), .second, iv b76, lv (-1 : Int64), .second, .unset, .unset] [(.int b76)] _
            refine own_go (fun t₀ k₀ => XS.ifNo X75.here hx rfl (Jvm.hb hby at_169) rfl (XT.i0_eq_f c77) k₀) ?_
            show Gm p e below T75 m 172 #[iv p0, iv p1, iv p2, iv p3, iv k, iv b2, rv r12, lv ((k.toInt64) + (3 : Int64)), .second, lv ((p1.toInt64) &&& (2147483647 : Int64)), .second, lv ((p2.toInt64) &&& (2147483647 : Int64)), .second, lv (fMin ((p1.toInt64) &&& (2147483647 : Int64)) ((p2.toInt64) &&& (2147483647 : Int64))), .second, iv b76, lv (-1 : Int64), .second, .unset, .unset] [] _
            refine own_go (fun t₀ k₀ => XS.lload X75.here hx rfl (Jvm.hb hby at_172) rfl k₀) ?_
            show Gm p e below T75 m 174 #[iv p0, iv p1, iv p2, iv p3, iv k, iv b2, rv r12, lv ((k.toInt64) + (3 : Int64)), .second, lv ((p1.toInt64) &&& (2147483647 : Int64)), .second, lv ((p2.toInt64) &&& (2147483647 : Int64)), .second, lv (fMin ((p1.toInt64) &&& (2147483647 : Int64)) ((p2.toInt64) &&& (2147483647 : Int64))), .second, iv b76, lv (-1 : Int64), .second, .unset, .unset] [(.long (fMin ((p1.toInt64) &&& (2147483647 : Int64)) ((p2.toInt64) &&& (2147483647 : Int64))))] _
            refine own_go (fun t₀ k₀ => XS.lconst X75.here hx rfl (Jvm.hb hby at_174) k₀) ?_
            show Gm p e below T75 m 175 #[iv p0, iv p1, iv p2, iv p3, iv k, iv b2, rv r12, lv ((k.toInt64) + (3 : Int64)), .second, lv ((p1.toInt64) &&& (2147483647 : Int64)), .second, lv ((p2.toInt64) &&& (2147483647 : Int64)), .second, lv (fMin ((p1.toInt64) &&& (2147483647 : Int64)) ((p2.toInt64) &&& (2147483647 : Int64))), .second, iv b76, lv (-1 : Int64), .second, .unset, .unset] [(.long (1 : Int64)), (.long (fMin ((p1.toInt64) &&& (2147483647 : Int64)) ((p2.toInt64) &&& (2147483647 : Int64))))] _
            refine own_go (fun t₀ k₀ => XS.ladd X75.here hx rfl (Jvm.hb hby at_175) rfl k₀) ?_
            show Gm p e below T75 m 176 #[iv p0, iv p1, iv p2, iv p3, iv k, iv b2, rv r12, lv ((k.toInt64) + (3 : Int64)), .second, lv ((p1.toInt64) &&& (2147483647 : Int64)), .second, lv ((p2.toInt64) &&& (2147483647 : Int64)), .second, lv (fMin ((p1.toInt64) &&& (2147483647 : Int64)) ((p2.toInt64) &&& (2147483647 : Int64))), .second, iv b76, lv (-1 : Int64), .second, .unset, .unset] [(.long ((fMin ((p1.toInt64) &&& (2147483647 : Int64)) ((p2.toInt64) &&& (2147483647 : Int64))) + (1 : Int64)))] _
            refine own_go (fun t₀ k₀ => XS.lload X75.here hx rfl (Jvm.hb hby at_176) rfl k₀) ?_
            show Gm p e below T75 m 178 #[iv p0, iv p1, iv p2, iv p3, iv k, iv b2, rv r12, lv ((k.toInt64) + (3 : Int64)), .second, lv ((p1.toInt64) &&& (2147483647 : Int64)), .second, lv ((p2.toInt64) &&& (2147483647 : Int64)), .second, lv (fMin ((p1.toInt64) &&& (2147483647 : Int64)) ((p2.toInt64) &&& (2147483647 : Int64))), .second, iv b76, lv (-1 : Int64), .second, .unset, .unset] [(.long ((k.toInt64) + (3 : Int64))), (.long ((fMin ((p1.toInt64) &&& (2147483647 : Int64)) ((p2.toInt64) &&& (2147483647 : Int64))) + (1 : Int64)))] _
            refine own_go (fun t₀ k₀ => XS.lmul X75.here hx rfl (Jvm.hb hby at_178) rfl k₀) ?_
            show Gm p e below T75 m 179 #[iv p0, iv p1, iv p2, iv p3, iv k, iv b2, rv r12, lv ((k.toInt64) + (3 : Int64)), .second, lv ((p1.toInt64) &&& (2147483647 : Int64)), .second, lv ((p2.toInt64) &&& (2147483647 : Int64)), .second, lv (fMin ((p1.toInt64) &&& (2147483647 : Int64)) ((p2.toInt64) &&& (2147483647 : Int64))), .second, iv b76, lv (-1 : Int64), .second, .unset, .unset] [(.long (((fMin ((p1.toInt64) &&& (2147483647 : Int64)) ((p2.toInt64) &&& (2147483647 : Int64))) + (1 : Int64)) * ((k.toInt64) + (3 : Int64))))] _
            refine own_go (fun t₀ k₀ => X75.ldc2J hx hown (mvT hZ (hw _ (List.mem_of_getElem? (i := 21) rfl))) rfl (Jvm.hb hby at_179) k₀) ?_
            show Gm p e below T75 m 182 #[iv p0, iv p1, iv p2, iv p3, iv k, iv b2, rv r12, lv ((k.toInt64) + (3 : Int64)), .second, lv ((p1.toInt64) &&& (2147483647 : Int64)), .second, lv ((p2.toInt64) &&& (2147483647 : Int64)), .second, lv (fMin ((p1.toInt64) &&& (2147483647 : Int64)) ((p2.toInt64) &&& (2147483647 : Int64))), .second, iv b76, lv (-1 : Int64), .second, .unset, .unset] [(.long (2 : Int64)), (.long (((fMin ((p1.toInt64) &&& (2147483647 : Int64)) ((p2.toInt64) &&& (2147483647 : Int64))) + (1 : Int64)) * ((k.toInt64) + (3 : Int64))))] _
            refine own_go (fun t₀ k₀ => XS.ladd X75.here hx rfl (Jvm.hb hby at_182) rfl k₀) ?_
            show Gm p e below T75 m 183 #[iv p0, iv p1, iv p2, iv p3, iv k, iv b2, rv r12, lv ((k.toInt64) + (3 : Int64)), .second, lv ((p1.toInt64) &&& (2147483647 : Int64)), .second, lv ((p2.toInt64) &&& (2147483647 : Int64)), .second, lv (fMin ((p1.toInt64) &&& (2147483647 : Int64)) ((p2.toInt64) &&& (2147483647 : Int64))), .second, iv b76, lv (-1 : Int64), .second, .unset, .unset] [(.long ((((fMin ((p1.toInt64) &&& (2147483647 : Int64)) ((p2.toInt64) &&& (2147483647 : Int64))) + (1 : Int64)) * ((k.toInt64) + (3 : Int64))) + (2 : Int64)))] _
            refine own_go (fun t₀ k₀ => XS.goto X75.here hx rfl (pc0 := 183) (pc' := 196) rfl (Jvm.hb hby at_183) (by decide) (by decide) k₀) ?_
            show Gm p e below T75 m 196 #[iv p0, iv p1, iv p2, iv p3, iv k, iv b2, rv r12, lv ((k.toInt64) + (3 : Int64)), .second, lv ((p1.toInt64) &&& (2147483647 : Int64)), .second, lv ((p2.toInt64) &&& (2147483647 : Int64)), .second, lv (fMin ((p1.toInt64) &&& (2147483647 : Int64)) ((p2.toInt64) &&& (2147483647 : Int64))), .second, iv b76, lv (-1 : Int64), .second, .unset, .unset] [(.long ((((fMin ((p1.toInt64) &&& (2147483647 : Int64)) ((p2.toInt64) &&& (2147483647 : Int64))) + (1 : Int64)) * ((k.toInt64) + (3 : Int64))) + (2 : Int64)))] _
            refine own_go (fun t₀ k₀ => XS.lstore X75.here hx rfl (Jvm.hb hby at_196) rfl (l' := #[iv p0, iv p1, iv p2, iv p3, iv k, iv b2, rv r12, lv ((k.toInt64) + (3 : Int64)), .second, lv ((p1.toInt64) &&& (2147483647 : Int64)), .second, lv ((p2.toInt64) &&& (2147483647 : Int64)), .second, lv (fMin ((p1.toInt64) &&& (2147483647 : Int64)) ((p2.toInt64) &&& (2147483647 : Int64))), .second, iv b76, lv (-1 : Int64), .second, lv ((((fMin ((p1.toInt64) &&& (2147483647 : Int64)) ((p2.toInt64) &&& (2147483647 : Int64))) + (1 : Int64)) * ((k.toInt64) + (3 : Int64))) + (2 : Int64)), .second]) rfl k₀) ?_
            show Gm p e below T75 m 198 #[iv p0, iv p1, iv p2, iv p3, iv k, iv b2, rv r12, lv ((k.toInt64) + (3 : Int64)), .second, lv ((p1.toInt64) &&& (2147483647 : Int64)), .second, lv ((p2.toInt64) &&& (2147483647 : Int64)), .second, lv (fMin ((p1.toInt64) &&& (2147483647 : Int64)) ((p2.toInt64) &&& (2147483647 : Int64))), .second, iv b76, lv (-1 : Int64), .second, lv ((((fMin ((p1.toInt64) &&& (2147483647 : Int64)) ((p2.toInt64) &&& (2147483647 : Int64))) + (1 : Int64)) * ((k.toInt64) + (3 : Int64))) + (2 : Int64)), .second] [] _
            refine own_go (fun t₀ k₀ => XS.aload X75.here hx rfl (Jvm.hb hby at_198) rfl rfl k₀) ?_
            show Gm p e below T75 m 200 #[iv p0, iv p1, iv p2, iv p3, iv k, iv b2, rv r12, lv ((k.toInt64) + (3 : Int64)), .second, lv ((p1.toInt64) &&& (2147483647 : Int64)), .second, lv ((p2.toInt64) &&& (2147483647 : Int64)), .second, lv (fMin ((p1.toInt64) &&& (2147483647 : Int64)) ((p2.toInt64) &&& (2147483647 : Int64))), .second, iv b76, lv (-1 : Int64), .second, lv ((((fMin ((p1.toInt64) &&& (2147483647 : Int64)) ((p2.toInt64) &&& (2147483647 : Int64))) + (1 : Int64)) * ((k.toInt64) + (3 : Int64))) + (2 : Int64)), .second] [(.ref r12)] _
            refine own_go (fun t₀ k₀ => XS.lload X75.here hx rfl (Jvm.hb hby at_200) rfl k₀) ?_
            show Gm p e below T75 m 202 #[iv p0, iv p1, iv p2, iv p3, iv k, iv b2, rv r12, lv ((k.toInt64) + (3 : Int64)), .second, lv ((p1.toInt64) &&& (2147483647 : Int64)), .second, lv ((p2.toInt64) &&& (2147483647 : Int64)), .second, lv (fMin ((p1.toInt64) &&& (2147483647 : Int64)) ((p2.toInt64) &&& (2147483647 : Int64))), .second, iv b76, lv (-1 : Int64), .second, lv ((((fMin ((p1.toInt64) &&& (2147483647 : Int64)) ((p2.toInt64) &&& (2147483647 : Int64))) + (1 : Int64)) * ((k.toInt64) + (3 : Int64))) + (2 : Int64)), .second] [(.long (fMin ((p1.toInt64) &&& (2147483647 : Int64)) ((p2.toInt64) &&& (2147483647 : Int64)))), (.ref r12)] _
            refine own_go (fun t₀ k₀ => XS.lload X75.here hx rfl (Jvm.hb hby at_202) rfl k₀) ?_
            show Gm p e below T75 m 204 #[iv p0, iv p1, iv p2, iv p3, iv k, iv b2, rv r12, lv ((k.toInt64) + (3 : Int64)), .second, lv ((p1.toInt64) &&& (2147483647 : Int64)), .second, lv ((p2.toInt64) &&& (2147483647 : Int64)), .second, lv (fMin ((p1.toInt64) &&& (2147483647 : Int64)) ((p2.toInt64) &&& (2147483647 : Int64))), .second, iv b76, lv (-1 : Int64), .second, lv ((((fMin ((p1.toInt64) &&& (2147483647 : Int64)) ((p2.toInt64) &&& (2147483647 : Int64))) + (1 : Int64)) * ((k.toInt64) + (3 : Int64))) + (2 : Int64)), .second] [(.long (-1 : Int64)), (.long (fMin ((p1.toInt64) &&& (2147483647 : Int64)) ((p2.toInt64) &&& (2147483647 : Int64)))), (.ref r12)] _
            obtain ⟨cq80, kq80, q80a, q80b, q80c⟩ := isOf hZ e75 Ec67
            obtain ⟨_, _, ⟨T80, L80, k80, n80⟩, -, X80, ⟨Lc80, hQ80, l80, y80, z80⟩, st80⟩ := X75.virtualBack hx (y := (⟨"com/example/data_in_bounds/datainbounds/metapath/RegexProgram$Fragment", "repeatedLength", "(JJ)J"⟩ : MethodName)) (z := (⟨"com/example/data_in_bounds/datainbounds/metapath/RegexProgram$Fragment", "repeatedLength", "(JJ)J"⟩ : MethodName)) hown (mvT hZ (hw _ (List.mem_of_getElem? (i := 22) rfl))) (mvT hZ (hw _ (List.mem_of_getElem? (i := 23) rfl))) (notFace_of_selects (args := #[]) (mvT hZ (hw _ (List.mem_of_getElem? (i := 25) rfl)))) (mvT hZ (hw _ (List.mem_of_getElem? (i := 25) rfl))) (mvT hZ (hw _ (List.mem_of_getElem? (i := 24) rfl))) (by decide) (backOf (W := 0) (rm4 l Z a0 hw [] r12 (fMin ((p1.toInt64) &&& (2147483647 : Int64)) ((p2.toInt64) &&& (2147483647 : Int64))) (-1 : Int64) (3 : Int32) ((b2 &&& (1 : Int32)) &&& (1 : Int32)) T67.heap n0 Z67 Flen67 Fnul67) hZ (hw _ (List.mem_of_getElem? (i := 26) rfl)) (hw _ (List.mem_of_getElem? (i := 2) rfl)) (by decide) (by decide)) q80a q80c (g := (mkF m 204 #[iv p0, iv p1, iv p2, iv p3, iv k, iv b2, rv r12, lv ((k.toInt64) + (3 : Int64)), .second, lv ((p1.toInt64) &&& (2147483647 : Int64)), .second, lv ((p2.toInt64) &&& (2147483647 : Int64)), .second, lv (fMin ((p1.toInt64) &&& (2147483647 : Int64)) ((p2.toInt64) &&& (2147483647 : Int64))), .second, iv b76, lv (-1 : Int64), .second, lv ((((fMin ((p1.toInt64) &&& (2147483647 : Int64)) ((p2.toInt64) &&& (2147483647 : Int64))) + (1 : Int64)) * ((k.toInt64) + (3 : Int64))) + (2 : Int64)), .second] [(.long (-1 : Int64)), (.long (fMin ((p1.toInt64) &&& (2147483647 : Int64)) ((p2.toInt64) &&& (2147483647 : Int64)))), (.ref r12)])) rfl (by rw [hml]; rfl) (Steps.refl _) (argsL := [(.long (fMin ((p1.toInt64) &&& (2147483647 : Int64)) ((p2.toInt64) &&& (2147483647 : Int64)))), (.long (-1 : Int64))]) (rest := []) (lenOf own_pd4 rfl) rfl (by show 2 * 0 + _ ≤ _; exact Nat.le_of_eq rfl) (Jvm.hb hby at_204) (fun _ _ => ⟨rfl, e75, (by decide : 6 + 0 ≤ _), (by decide : 36 + 0 ≤ _)⟩)
            dsimp only [Pt.U, Pt.locs, Pt.cells, Pt.slots] at X80 l80 y80 z80 st80 hQ80
            subst l80 y80 z80
            obtain ⟨rfl, Nq80, eq80⟩ := hQ80
            have N80 := Fr.app N75 Nq80
            have e80 : T80.heap = T67.heap := eq80
            refine own_go (fun t k => st80.trans k) ?_
            show Gm p e below T80 m 207 #[iv p0, iv p1, iv p2, iv p3, iv k, iv b2, rv r12, lv ((k.toInt64) + (3 : Int64)), .second, lv ((p1.toInt64) &&& (2147483647 : Int64)), .second, lv ((p2.toInt64) &&& (2147483647 : Int64)), .second, lv (fMin ((p1.toInt64) &&& (2147483647 : Int64)) ((p2.toInt64) &&& (2147483647 : Int64))), .second, iv b76, lv (-1 : Int64), .second, lv ((((fMin ((p1.toInt64) &&& (2147483647 : Int64)) ((p2.toInt64) &&& (2147483647 : Int64))) + (1 : Int64)) * ((k.toInt64) + (3 : Int64))) + (2 : Int64)), .second] [(.long (fR (fMin ((p1.toInt64) &&& (2147483647 : Int64)) ((p2.toInt64) &&& (2147483647 : Int64))) (-1 : Int64) (3 : Int32) ((b2 &&& (1 : Int32)) &&& (1 : Int32))))] _
            refine own_go (fun t₀ k₀ => XS.lload X80.here hx rfl (Jvm.hb hby at_207) rfl k₀) ?_
            show Gm p e below T80 m 209 #[iv p0, iv p1, iv p2, iv p3, iv k, iv b2, rv r12, lv ((k.toInt64) + (3 : Int64)), .second, lv ((p1.toInt64) &&& (2147483647 : Int64)), .second, lv ((p2.toInt64) &&& (2147483647 : Int64)), .second, lv (fMin ((p1.toInt64) &&& (2147483647 : Int64)) ((p2.toInt64) &&& (2147483647 : Int64))), .second, iv b76, lv (-1 : Int64), .second, lv ((((fMin ((p1.toInt64) &&& (2147483647 : Int64)) ((p2.toInt64) &&& (2147483647 : Int64))) + (1 : Int64)) * ((k.toInt64) + (3 : Int64))) + (2 : Int64)), .second] [(.long ((((fMin ((p1.toInt64) &&& (2147483647 : Int64)) ((p2.toInt64) &&& (2147483647 : Int64))) + (1 : Int64)) * ((k.toInt64) + (3 : Int64))) + (2 : Int64))), (.long (fR (fMin ((p1.toInt64) &&& (2147483647 : Int64)) ((p2.toInt64) &&& (2147483647 : Int64))) (-1 : Int64) (3 : Int32) ((b2 &&& (1 : Int32)) &&& (1 : Int32))))] _
            refine own_go (fun t₀ k₀ => XT.lcmp X80.here hx rfl (Jvm.hb hby at_209) rfl k₀) ?_
            show Gm p e below T80 m 210 #[iv p0, iv p1, iv p2, iv p3, iv k, iv b2, rv r12, lv ((k.toInt64) + (3 : Int64)), .second, lv ((p1.toInt64) &&& (2147483647 : Int64)), .second, lv ((p2.toInt64) &&& (2147483647 : Int64)), .second, lv (fMin ((p1.toInt64) &&& (2147483647 : Int64)) ((p2.toInt64) &&& (2147483647 : Int64))), .second, iv b76, lv (-1 : Int64), .second, lv ((((fMin ((p1.toInt64) &&& (2147483647 : Int64)) ((p2.toInt64) &&& (2147483647 : Int64))) + (1 : Int64)) * ((k.toInt64) + (3 : Int64))) + (2 : Int64)), .second] [(.int (XT.cmpL (fR (fMin ((p1.toInt64) &&& (2147483647 : Int64)) ((p2.toInt64) &&& (2147483647 : Int64))) (-1 : Int64) (3 : Int32) ((b2 &&& (1 : Int32)) &&& (1 : Int32))) ((((fMin ((p1.toInt64) &&& (2147483647 : Int64)) ((p2.toInt64) &&& (2147483647 : Int64))) + (1 : Int64)) * ((k.toInt64) + (3 : Int64))) + (2 : Int64))))] _
            refine own_go (fun t₀ k₀ => XS.ifNo X80.here hx rfl (Jvm.hb hby at_210) rfl (XT.ll_ne_f (own_fin _ _ _ _ ((k.toInt64) + (3 : Int64)) _ (by rw [hk, if_neg (own_nz2 hb2 c68)]; decide) (by rw [if_pos (by decide)]; try rfl))) k₀) ?_
            show Gm p e below T80 m 213 #[iv p0, iv p1, iv p2, iv p3, iv k, iv b2, rv r12, lv ((k.toInt64) + (3 : Int64)), .second, lv ((p1.toInt64) &&& (2147483647 : Int64)), .second, lv ((p2.toInt64) &&& (2147483647 : Int64)), .second, lv (fMin ((p1.toInt64) &&& (2147483647 : Int64)) ((p2.toInt64) &&& (2147483647 : Int64))), .second, iv b76, lv (-1 : Int64), .second, lv ((((fMin ((p1.toInt64) &&& (2147483647 : Int64)) ((p2.toInt64) &&& (2147483647 : Int64))) + (1 : Int64)) * ((k.toInt64) + (3 : Int64))) + (2 : Int64)), .second] [] _
            refine own_go (fun t₀ k₀ => XS.iconst X80.here hx rfl (Jvm.hb hby at_213) k₀) ?_
            show Gm p e below T80 m 214 #[iv p0, iv p1, iv p2, iv p3, iv k, iv b2, rv r12, lv ((k.toInt64) + (3 : Int64)), .second, lv ((p1.toInt64) &&& (2147483647 : Int64)), .second, lv ((p2.toInt64) &&& (2147483647 : Int64)), .second, lv (fMin ((p1.toInt64) &&& (2147483647 : Int64)) ((p2.toInt64) &&& (2147483647 : Int64))), .second, iv b76, lv (-1 : Int64), .second, lv ((((fMin ((p1.toInt64) &&& (2147483647 : Int64)) ((p2.toInt64) &&& (2147483647 : Int64))) + (1 : Int64)) * ((k.toInt64) + (3 : Int64))) + (2 : Int64)), .second] [(.int (1 : Int32))] _
            refine own_go (fun t₀ k₀ => XS.goto X80.here hx rfl (pc0 := 214) (pc' := 218) rfl (Jvm.hb hby at_214) (by decide) (by decide) k₀) ?_
            show Gm p e below T80 m 218 #[iv p0, iv p1, iv p2, iv p3, iv k, iv b2, rv r12, lv ((k.toInt64) + (3 : Int64)), .second, lv ((p1.toInt64) &&& (2147483647 : Int64)), .second, lv ((p2.toInt64) &&& (2147483647 : Int64)), .second, lv (fMin ((p1.toInt64) &&& (2147483647 : Int64)) ((p2.toInt64) &&& (2147483647 : Int64))), .second, iv b76, lv (-1 : Int64), .second, lv ((((fMin ((p1.toInt64) &&& (2147483647 : Int64)) ((p2.toInt64) &&& (2147483647 : Int64))) + (1 : Int64)) * ((k.toInt64) + (3 : Int64))) + (2 : Int64)), .second] [(.int (1 : Int32))] _
            exact own_retI X80 hx hlk (t := .boolean) Bd.returns rfl (by simp) (Jvm.hb hby at_218) e80 ⟨rfl, N80⟩ (by decide) (by decide)
set_option maxRecDepth 65536 in
set_option maxHeartbeats 40000000 in
theorem comes_1 {Post : Tables → Env → Array Value → State → Outcome → State → Prop} (hpost : ∀ tb e args s v u, (limb_1_1.after args s (.returned v) u = true ∧ limb_1_2.after args s (.returned v) u = true ∧ True) → FrameEnd s (.returned v) u (Jvm.fieldLocs frame_1_writes args s ++ Jvm.arrayLocs frame_1_arrays args s ++ Jvm.staticLocs frame_1_statics s) 24 192 → Post tb e args s (.returned v) u) :
    ArmFor flags0 classFile x code maxLocals ret World_1 tables_1 room_1 Calls_1 rest_1 Pre_1 Post := by
  intro l hfl _ _ p e ha hc hk s m args below hf hA hF happ hP
  obtain ⟨hcalls, hrest, hpre⟩ := hP
  obtain ⟨-, -, -, hnamed, -, -, -, hat⟩ := (Spec.applies_iff hf).mp happ
  obtain ⟨hg, hn⟩ := and_e (Cond.before_iff.mp (show (Jvm.Cond.and given_1 narrow_1).before args s = true from hpre))
  obtain ⟨g1, g2⟩ := and_e hg
  obtain ⟨g3, g4⟩ := and_e g2
  obtain ⟨g5, g6⟩ := and_e g4
  obtain ⟨g7, g8⟩ := and_e g6
  obtain ⟨w0, w1, w2, w3, rfl⟩ : ∃ w0 w1 w2 w3 : Value, args = #[w0, w1, w2, w3] := by
    have hs : args.size = 4 := by simpa [Cond.value, given_1] using g1
    obtain ⟨L⟩ := args
    match L, hs with
    | [w0, w1, w2, w3], _ => exact ⟨w0, w1, w2, w3, rfl⟩
  have hw := fun d (hd : d ∈ tables_1) => atoms_spec (ws := Jvm.Cond.code x code maxLocals ret :: tables_1) hat d (List.mem_cons_of_mem _ hd)
  have hfit : Fit s := fun {y c} hc i hi => by
    obtain ⟨ha, rfl⟩ := Array.getElem?_eq_some_iff.mp hc
    have q := List.all_eq_true.mp ((Array.all_eq_true_iff_forall_mem.mp hF) _ (Array.getElem_mem ha)) i (List.mem_range.mpr hi)
    simpa [Array.getElem?_eq_getElem hi] using q
  obtain ⟨i0, ei0⟩ := is_v g3
  obtain rfl : w0 = (.int i0) := Option.some.inj ei0
  obtain ⟨i1, ei1⟩ := is_v g5
  obtain rfl : w1 = (.int i1) := Option.some.inj ei1
  obtain ⟨i2, ei2⟩ := is_v g7
  obtain rfl : w2 = (.int i2) := Option.some.inj ei2
  obtain ⟨i3, ei3⟩ := is_v g8
  obtain rfl : w3 = (.int i3) := Option.some.inj ei3
  obtain ⟨n, o, h1, h2, h3, _, L, rfl, ⟨rfl, N⟩, hq⟩ := rm0 l s _ hw tables_1 i0 i1 i2 i3  s.heap s.heap.size (Nat.le_refl _)  p e ha hc hk s m _ below hf ((Spec.applies_iff_loose hf).mp happ).1 ⟨rfl, State.Warmed39.refl s, rfl⟩ trivial
  refine ⟨n, _, h1, h2, h3, hpost _ _ _ _ _ _ ⟨Cond.after_iff.mpr rfl, Cond.after_iff.mpr (eq_i res_at (Term.int_eval (1)) rfl), trivial⟩ ⟨hq.1, hq.2.1, (hq.2.2.sift fun y hy => Or.inr (N y hy)).mono (by decide) (by decide)⟩⟩
theorem main_1_1 : Claimed_1_1 := comes_1 fun _ _ _ _ _ _ h hF => ⟨h.1, hF⟩
theorem main_1_2 : Claimed_1_2 := comes_1 fun _ _ _ _ _ _ h hF => ⟨h.2.1, hF⟩
end Jvm.Pilot.@@N@@
namespace Jvm.Pilot.@@N@@
open Jvm Jvm.ClassFile Sem Op Lib Jvm.Free Jvm.Stand Jvm.Pilot.@@N@@.Jvm.D
/-! MADE BY PROGRAM (witnessworld.py) out of the Statement's table words and the real class files: 11 classes; the members and pool entries that the words name. The judged class is class 1, her method 1. -/
namespace start1
open Jvm.ClassFile
def u (s : String) : CpInfo := .utf8 (stringToUtf16 s)
/-- a pool by its gaps: so many unusable entries, then the entry; so many at the end -/
def gap : Nat → List CpInfo → List CpInfo
  | 0, r => r
  | n + 1, r => .unusable :: gap n r
def poolList (es : List (Nat × CpInfo)) (last : Nat) : List CpInfo := es.foldr (fun e r => gap e.1 (e.2 :: r)) (gap last [])
def pool (es : List (Nat × CpInfo)) (last : Nat) : Array CpInfo := ⟨poolList es last⟩
def fileOf (pool : Array CpInfo) (this : Nat) (attrs : Array Attribute := #[]) (ms : Array MethodInfo := #[]) (fl : Nat := 33) (sup : Nat := 0) (ifs : Array Nat := #[]) (fds : Array FieldInfo := #[]) : ClassFile where
  minorVersion := 0
  majorVersion := 65
  constantPool := pool
  accessFlags := fl
  thisClass := this
  superClass := sup
  interfaces := ifs
  fields := fds
  methods := ms
  attributes := attrs
def plain (name : String) (sup : Option ClassId) : Class where
  name := name
  kind := .ordinary
  loader := none
  accessFlags := 33
  super := sup
  interfaces := #[]
  cf := none
  fields := #[]
  methods := #[]
  instanceTypes := #[]
  staticTypes := #[]
  resolved := #[]
  callSites := []
  init := .initialized
  statics := none
  mirror := none

def pool0 : Array CpInfo := pool [(5, u "<init>"), (0, u "()V"), (1, .class_ 10), (1, u "java/lang/Object")] 113

def k0c0 : Code := { maxStack := 0, maxLocals := 1, code := object_method_1_code, exceptionTable := #[], attributes := #[] }
def k0m0 : Method := { name := "<init>", desc := "()V", sig := { parameters := [], returnType := none }, accessFlags := 1, code := some k0c0 }
/-- java/lang/Object -/
def k0 : Class := { plain "java/lang/Object" none with
  accessFlags := 33
  interfaces := #[]
  cf := some (fileOf pool0 8 #[] #[{ accessFlags := 1, nameIndex := 5, descriptorIndex := 6, attributes := #[] }] 33 0 #[] #[])
  fields := #[]
  methods := #[k0m0]
  instanceTypes := #[]
  staticTypes := #[]
  resolved := Array.replicate 124 none
  statics := none }

def pool1 : Array CpInfo := pool [(2, .class_ 4), (0, .nameAndType 5 6), (0, u "java/lang/Object"), (0, u "<init>"), (0, u "()V"), (0, .class_ 8), (0, u "com/example/data_in_bounds/datainbounds/metapath/RegexProgram$Fragment"), (0, .methodref 7 3), (2, .methodref 7 13), (0, .nameAndType 14 15), (0, u "of"), (0, u "(IIZ)Lcom/example/data_in_bounds/datainbounds/metapath/RegexProgram$Fragment;"), (0, .methodref 7 17), (0, .nameAndType 18 19), (0, u "append"), (0, u "(Lcom/example/data_in_bounds/datainbounds/metapath/RegexProgram$Fragment;)Lcom/example/data_in_bounds/datainbounds/metapath/RegexProgram$Fragment;"), (0, .long 3), (1, .long 2147483647), (1, .methodref 25 26), (0, .class_ 27), (0, .nameAndType 28 29), (0, u "java/lang/Math"), (0, u "min"), (0, u "(JJ)J"), (0, .long 18446744073709551615), (1, .methodref 25 33), (0, .nameAndType 34 29), (0, u "max"), (0, .long 2), (1, .methodref 7 38), (0, .nameAndType 39 29), (0, u "repeatedLength"), (0, .class_ 41), (0, u "com/example/data_in_bounds/datainbounds/metapath/FragmentRepeatedLengthPinLaw"), (2, u "law"), (0, u "(IIII)Z")] 5

def k1m0 : Method := { name := "<init>", desc := "()V", sig := { parameters := [], returnType := none }, accessFlags := 1, code := none }
def k1c1 : Code := { maxStack := 6, maxLocals := 20, code := code, exceptionTable := #[], attributes := #[] }
def k1m1 : Method := { name := "law", desc := "(IIII)Z", sig := { parameters := [.int, .int, .int, .int], returnType := some .boolean }, accessFlags := 9, code := some k1c1 }
/-- com/example/data_in_bounds/datainbounds/metapath/FragmentRepeatedLengthPinLaw -/
def k1 : Class := { plain "com/example/data_in_bounds/datainbounds/metapath/FragmentRepeatedLengthPinLaw" (some 0) with
  accessFlags := 49
  interfaces := #[]
  cf := some (fileOf pool1 40 #[] #[{ accessFlags := 1, nameIndex := 5, descriptorIndex := 6, attributes := #[] }, { accessFlags := 9, nameIndex := 44, descriptorIndex := 45, attributes := #[] }] 49 2 #[] #[])
  fields := #[]
  methods := #[k1m0, k1m1]
  instanceTypes := #[]
  staticTypes := #[]
  resolved := Array.replicate 51 none
  statics := none }

def pool2 : Array CpInfo := pool [(1, .class_ 2), (0, u "com/example/data_in_bounds/datainbounds/metapath/RegexProgram"), (0, .methodref 4 5), (0, .class_ 6), (0, .nameAndType 7 8), (0, u "java/lang/Object"), (0, u "<init>"), (0, u "()V"), (0, .fieldref 10 11), (0, .class_ 12), (0, .nameAndType 13 14), (0, u "com/example/data_in_bounds/datainbounds/metapath/RegexProgram$Fragment"), (0, u "code"), (0, u "[I"), (0, .fieldref 10 16), (0, .nameAndType 17 18), (0, u "nullable"), (0, u "Z"), (0, .methodref 10 5), (0, .methodref 10 21), (0, .nameAndType 22 23), (0, u "add"), (0, u "(II)Lcom/example/data_in_bounds/datainbounds/metapath/RegexProgram$Fragment;"), (0, .fieldref 10 25), (0, .nameAndType 26 27), (0, u "length"), (0, u "I"), (0, .methodref 10 29), (0, .nameAndType 30 31), (0, u "ensure"), (0, u "(I)V"), (0, .methodref 33 34), (0, .class_ 35), (0, .nameAndType 36 37), (0, u "java/lang/System"), (0, u "arraycopy"), (0, u "(Ljava/lang/Object;ILjava/lang/Object;II)V"), (0, .fieldref 10 39), (0, .nameAndType 40 27), (0, u "height"), (0, .methodref 42 43), (0, .class_ 44), (0, .nameAndType 45 46), (0, u "java/lang/Math"), (0, u "max"), (0, u "(II)I"), (26, u "append"), (0, u "(Lcom/example/data_in_bounds/datainbounds/metapath/RegexProgram$Fragment;)Lcom/example/data_in_bounds/datainbounds/metapath/RegexProgram$Fragment;"), (2, u "of"), (0, u "(IIZ)Lcom/example/data_in_bounds/datainbounds/metapath/RegexProgram$Fragment;"), (0, .long 2), (3, u "repeatedLength"), (0, u "(JJ)J")] 39

def k2c0 : Code := { maxStack := 2, maxLocals := 1, code := prog_105_method_1_code, exceptionTable := #[], attributes := #[] }
def k2m0 : Method := { name := "<init>", desc := "()V", sig := { parameters := [], returnType := none }, accessFlags := 0, code := some k2c0 }
def k2c1 : Code := { maxStack := 3, maxLocals := 4, code := prog_105_method_2_code, exceptionTable := #[], attributes := #[] }
def k2m1 : Method := { name := "of", desc := "(IIZ)Lcom/example/data_in_bounds/datainbounds/metapath/RegexProgram$Fragment;", sig := { parameters := [.int, .int, .boolean], returnType := some (.object "com/example/data_in_bounds/datainbounds/metapath/RegexProgram$Fragment") }, accessFlags := 8, code := some k2c1 }
def k2c2 : Code := { maxStack := 5, maxLocals := 2, code := prog_105_method_4_code, exceptionTable := #[], attributes := #[] }
def k2m2 : Method := { name := "append", desc := "(Lcom/example/data_in_bounds/datainbounds/metapath/RegexProgram$Fragment;)Lcom/example/data_in_bounds/datainbounds/metapath/RegexProgram$Fragment;", sig := { parameters := [(.object "com/example/data_in_bounds/datainbounds/metapath/RegexProgram$Fragment")], returnType := some (.object "com/example/data_in_bounds/datainbounds/metapath/RegexProgram$Fragment") }, accessFlags := 0, code := some k2c2 }
def k2c3 : Code := { maxStack := 8, maxLocals := 9, code := prog_105_method_7_code, exceptionTable := #[], attributes := #[] }
def k2m3 : Method := { name := "repeatedLength", desc := "(JJ)J", sig := { parameters := [.long, .long], returnType := some .long }, accessFlags := 0, code := some k2c3 }
def k2c4 : Code := { maxStack := 5, maxLocals := 3, code := prog_105_method_11_code, exceptionTable := #[], attributes := #[] }
def k2m4 : Method := { name := "add", desc := "(II)Lcom/example/data_in_bounds/datainbounds/metapath/RegexProgram$Fragment;", sig := { parameters := [.int, .int], returnType := some (.object "com/example/data_in_bounds/datainbounds/metapath/RegexProgram$Fragment") }, accessFlags := 2, code := some k2c4 }
def k2c5 : Code := { maxStack := 5, maxLocals := 2, code := prog_105_method_12_code, exceptionTable := #[], attributes := #[] }
def k2m5 : Method := { name := "ensure", desc := "(I)V", sig := { parameters := [.int], returnType := none }, accessFlags := 2, code := some k2c5 }
/-- com/example/data_in_bounds/datainbounds/metapath/RegexProgram$Fragment -/
def k2 : Class := { plain "com/example/data_in_bounds/datainbounds/metapath/RegexProgram$Fragment" (some 0) with
  accessFlags := 48
  interfaces := #[]
  cf := some (fileOf pool2 10 #[.nestHost 1] #[{ accessFlags := 0, nameIndex := 7, descriptorIndex := 8, attributes := #[] }, { accessFlags := 8, nameIndex := 77, descriptorIndex := 78, attributes := #[] }, { accessFlags := 0, nameIndex := 73, descriptorIndex := 74, attributes := #[] }, { accessFlags := 0, nameIndex := 83, descriptorIndex := 84, attributes := #[] }, { accessFlags := 2, nameIndex := 22, descriptorIndex := 23, attributes := #[] }, { accessFlags := 2, nameIndex := 30, descriptorIndex := 31, attributes := #[] }] 48 4 #[] #[{ accessFlags := 2, nameIndex := 13, descriptorIndex := 14, attributes := #[] }, { accessFlags := 2, nameIndex := 26, descriptorIndex := 27, attributes := #[] }, { accessFlags := 2, nameIndex := 17, descriptorIndex := 18, attributes := #[] }, { accessFlags := 2, nameIndex := 40, descriptorIndex := 27, attributes := #[] }])
  fields := #[{ name := "code", type := (.array .int), accessFlags := 2, slot := 0, constantValue := 0 }, { name := "length", type := .int, accessFlags := 2, slot := 1, constantValue := 0 }, { name := "nullable", type := .boolean, accessFlags := 2, slot := 2, constantValue := 0 }, { name := "height", type := .int, accessFlags := 2, slot := 3, constantValue := 0 }]
  methods := #[k2m0, k2m1, k2m2, k2m3, k2m4, k2m5]
  instanceTypes := #[(.array .int), .int, .boolean, .int]
  staticTypes := #[]
  resolved := Array.replicate 124 none
  statics := none }

def pool3 : Array CpInfo := pool [(1, .class_ 2), (0, u "java/lang/Math"), (1, .class_ 6), (1, u "java/lang/Object"), (0, u "<init>"), (0, u "()V"), (89, .class_ 100), (1, u "java/lang/Math$RandomNumberGeneratorHolder"), (20, u "(JJ)J"), (50, u "negativeZeroFloatBits"), (0, u "J"), (2, u "negativeZeroDoubleBits"), (21, u "max"), (2, u "min"), (43, u "$assertionsDisabled"), (0, u "Z"), (88, u "(II)I"), (2, u "twoToTheDoubleScaleDown"), (0, u "D"), (4, u "twoToTheDoubleScaleUp"), (9, u "E"), (3, u "PI"), (2, u "TAU"), (2, u "DEGREES_TO_RADIANS"), (0, u "RADIANS_TO_DEGREES")] 94

def k3m0 : Method := { name := "<init>", desc := "()V", sig := { parameters := [], returnType := none }, accessFlags := 2, code := none }
def k3c1 : Code := { maxStack := 2, maxLocals := 2, code := jdk_29_method_65_code, exceptionTable := #[], attributes := #[] }
def k3m1 : Method := { name := "max", desc := "(II)I", sig := { parameters := [.int, .int], returnType := some .int }, accessFlags := 9, code := some k3c1 }
def k3c2 : Code := { maxStack := 4, maxLocals := 4, code := jdk_29_method_66_code, exceptionTable := #[], attributes := #[] }
def k3m2 : Method := { name := "max", desc := "(JJ)J", sig := { parameters := [.long, .long], returnType := some .long }, accessFlags := 9, code := some k3c2 }
def k3c3 : Code := { maxStack := 4, maxLocals := 4, code := jdk_29_method_70_code, exceptionTable := #[], attributes := #[] }
def k3m3 : Method := { name := "min", desc := "(JJ)J", sig := { parameters := [.long, .long], returnType := some .long }, accessFlags := 9, code := some k3c3 }
/-- java/lang/Math -/
def k3 : Class := { plain "java/lang/Math" (some 0) with
  accessFlags := 49
  interfaces := #[]
  cf := some (fileOf pool3 1 #[.nestMembers #[98]] #[{ accessFlags := 2, nameIndex := 7, descriptorIndex := 8, attributes := #[] }, { accessFlags := 9, nameIndex := 198, descriptorIndex := 335, attributes := #[] }, { accessFlags := 9, nameIndex := 198, descriptorIndex := 121, attributes := #[] }, { accessFlags := 9, nameIndex := 201, descriptorIndex := 121, attributes := #[] }] 49 4 #[] #[{ accessFlags := 25, nameIndex := 354, descriptorIndex := 339, attributes := #[] }, { accessFlags := 25, nameIndex := 358, descriptorIndex := 339, attributes := #[] }, { accessFlags := 25, nameIndex := 361, descriptorIndex := 339, attributes := #[] }, { accessFlags := 26, nameIndex := 364, descriptorIndex := 339, attributes := #[] }, { accessFlags := 26, nameIndex := 365, descriptorIndex := 339, attributes := #[] }, { accessFlags := 26, nameIndex := 172, descriptorIndex := 173, attributes := #[] }, { accessFlags := 26, nameIndex := 176, descriptorIndex := 173, attributes := #[] }, { accessFlags := 8, nameIndex := 344, descriptorIndex := 339, attributes := #[] }, { accessFlags := 8, nameIndex := 338, descriptorIndex := 339, attributes := #[] }, { accessFlags := 4120, nameIndex := 245, descriptorIndex := 246, attributes := #[] }])
  fields := #[{ name := "E", type := .double, accessFlags := 25, slot := 0, constantValue := 0 }, { name := "PI", type := .double, accessFlags := 25, slot := 1, constantValue := 0 }, { name := "TAU", type := .double, accessFlags := 25, slot := 2, constantValue := 0 }, { name := "DEGREES_TO_RADIANS", type := .double, accessFlags := 26, slot := 3, constantValue := 0 }, { name := "RADIANS_TO_DEGREES", type := .double, accessFlags := 26, slot := 4, constantValue := 0 }, { name := "negativeZeroFloatBits", type := .long, accessFlags := 26, slot := 5, constantValue := 0 }, { name := "negativeZeroDoubleBits", type := .long, accessFlags := 26, slot := 6, constantValue := 0 }, { name := "twoToTheDoubleScaleUp", type := .double, accessFlags := 8, slot := 7, constantValue := 0 }, { name := "twoToTheDoubleScaleDown", type := .double, accessFlags := 8, slot := 8, constantValue := 0 }, { name := "$assertionsDisabled", type := .boolean, accessFlags := 4120, slot := 9, constantValue := 0 }]
  methods := #[k3m0, k3m1, k3m2, k3m3]
  instanceTypes := #[]
  staticTypes := #[.double, .double, .double, .double, .double, .long, .long, .double, .double, .boolean]
  resolved := Array.replicate 460 none
  statics := none }

def pool4 : Array CpInfo := pool [(2, .class_ 4), (1, u "java/lang/Object"), (0, u "<init>"), (0, u "()V"), (1, .class_ 10), (1, u "java/lang/System"), (0, u "allowSecurityManager"), (0, u "I"), (16, u "cons"), (0, u "Ljava/io/Console;"), (77, .class_ 110), (1, u "java/lang/System$CallersHolder"), (43, u "initialErrStream"), (0, u "Ljava/io/PrintStream;"), (19, u "security"), (0, u "Ljava/lang/SecurityManager;"), (31, .class_ 209), (0, u "java/lang/System$1"), (7, u "props"), (0, u "Ljava/util/Properties;"), (2, u "lineSeparator"), (0, u "Ljava/lang/String;"), (96, .class_ 321), (1, u "java/lang/System$LoggerFinder"), (5, .class_ 328), (0, u "java/lang/System$Logger"), (67, u "err"), (2, u "out"), (91, u "notSupportedJnuEncoding"), (15, u "in"), (17, u "initialIn"), (0, u "Ljava/io/InputStream;"), (35, u "bootLayer"), (0, u "Ljava/lang/ModuleLayer;"), (99, .class_ 664), (0, u "java/lang/System$2"), (9, u "NEVER"), (2, u "MAYBE"), (49, u "arraycopy"), (0, u "(Ljava/lang/Object;ILjava/lang/Object;II)V"), (72, .class_ 802), (0, u "java/lang/System$Logger$Level")] 31

def k4m0 : Method := { name := "<init>", desc := "()V", sig := { parameters := [], returnType := none }, accessFlags := 2, code := none }
def k4m1 : Method := { name := "arraycopy", desc := "(Ljava/lang/Object;ILjava/lang/Object;II)V", sig := { parameters := [(.object "java/lang/Object"), .int, (.object "java/lang/Object"), .int, .int], returnType := none }, accessFlags := 265, code := none }
/-- java/lang/System -/
def k4 : Class := { plain "java/lang/System" (some 0) with
  accessFlags := 49
  interfaces := #[]
  cf := some (fileOf pool4 8 #[.nestMembers #[319, 327, 801, 108, 663, 208]] #[{ accessFlags := 2, nameIndex := 5, descriptorIndex := 6, attributes := #[] }, { accessFlags := 265, nameIndex := 727, descriptorIndex := 728, attributes := #[] }] 49 2 #[] #[{ accessFlags := 25, nameIndex := 507, descriptorIndex := 526, attributes := #[] }, { accessFlags := 25, nameIndex := 399, descriptorIndex := 155, attributes := #[] }, { accessFlags := 25, nameIndex := 396, descriptorIndex := 155, attributes := #[] }, { accessFlags := 10, nameIndex := 525, descriptorIndex := 526, attributes := #[] }, { accessFlags := 26, nameIndex := 674, descriptorIndex := 12, attributes := #[] }, { accessFlags := 26, nameIndex := 677, descriptorIndex := 12, attributes := #[] }, { accessFlags := 10, nameIndex := 11, descriptorIndex := 12, attributes := #[] }, { accessFlags := 74, nameIndex := 175, descriptorIndex := 176, attributes := #[] }, { accessFlags := 10, nameIndex := 491, descriptorIndex := 222, attributes := #[] }, { accessFlags := 74, nameIndex := 29, descriptorIndex := 30, attributes := #[] }, { accessFlags := 74, nameIndex := 154, descriptorIndex := 155, attributes := #[] }, { accessFlags := 10, nameIndex := 217, descriptorIndex := 218, attributes := #[] }, { accessFlags := 10, nameIndex := 221, descriptorIndex := 222, attributes := #[] }, { accessFlags := 8, nameIndex := 562, descriptorIndex := 563, attributes := #[] }])
  fields := #[{ name := "in", type := (.object "java/io/InputStream"), accessFlags := 25, slot := 0, constantValue := 0 }, { name := "out", type := (.object "java/io/PrintStream"), accessFlags := 25, slot := 1, constantValue := 0 }, { name := "err", type := (.object "java/io/PrintStream"), accessFlags := 25, slot := 2, constantValue := 0 }, { name := "initialIn", type := (.object "java/io/InputStream"), accessFlags := 10, slot := 3, constantValue := 0 }, { name := "NEVER", type := .int, accessFlags := 26, slot := 4, constantValue := 0 }, { name := "MAYBE", type := .int, accessFlags := 26, slot := 5, constantValue := 0 }, { name := "allowSecurityManager", type := .int, accessFlags := 10, slot := 6, constantValue := 0 }, { name := "security", type := (.object "java/lang/SecurityManager"), accessFlags := 74, slot := 7, constantValue := 0 }, { name := "notSupportedJnuEncoding", type := (.object "java/lang/String"), accessFlags := 10, slot := 8, constantValue := 0 }, { name := "cons", type := (.object "java/io/Console"), accessFlags := 74, slot := 9, constantValue := 0 }, { name := "initialErrStream", type := (.object "java/io/PrintStream"), accessFlags := 74, slot := 10, constantValue := 0 }, { name := "props", type := (.object "java/util/Properties"), accessFlags := 10, slot := 11, constantValue := 0 }, { name := "lineSeparator", type := (.object "java/lang/String"), accessFlags := 10, slot := 12, constantValue := 0 }, { name := "bootLayer", type := (.object "java/lang/ModuleLayer"), accessFlags := 8, slot := 13, constantValue := 0 }]
  methods := #[k4m0, k4m1]
  instanceTypes := #[]
  staticTypes := #[(.object "java/io/InputStream"), (.object "java/io/PrintStream"), (.object "java/io/PrintStream"), (.object "java/io/InputStream"), .int, .int, .int, (.object "java/lang/SecurityManager"), (.object "java/lang/String"), (.object "java/io/Console"), (.object "java/io/PrintStream"), (.object "java/util/Properties"), (.object "java/lang/String"), (.object "java/lang/ModuleLayer")]
  resolved := Array.replicate 834 none
  statics := none }

def pool5 : Array CpInfo := pool [(1, u "java/lang/Cloneable"), (0, .class_ 1), (0, u "java/lang/Object"), (0, .class_ 3)] 3

/-- java/lang/Cloneable -/
def k5 : Class := { plain "java/lang/Cloneable" (some 0) with
  accessFlags := 1537
  interfaces := #[]
  cf := some (fileOf pool5 2 #[] #[] 1537 4 #[] #[])
  fields := #[]
  methods := #[]
  instanceTypes := #[]
  staticTypes := #[]
  resolved := Array.replicate 8 none
  statics := none }

def pool6 : Array CpInfo := pool [(1, u "java/io/Serializable"), (0, .class_ 1), (0, u "java/lang/Object"), (0, .class_ 3)] 3

/-- java/io/Serializable -/
def k6 : Class := { plain "java/io/Serializable" (some 0) with
  accessFlags := 1537
  interfaces := #[]
  cf := some (fileOf pool6 2 #[] #[] 1537 4 #[] #[])
  fields := #[]
  methods := #[]
  instanceTypes := #[]
  staticTypes := #[]
  resolved := Array.replicate 8 none
  statics := none }

/-- the primitive byte -/
def k7 : Class := { plain "byte" none with kind := .primitive 'B', accessFlags := 0x411 }
/-- [B -/
def k8 : Class := { plain "[B" (some 0) with kind := .array 7 .byte, interfaces := #[5, 6], accessFlags := 1041 }

/-- the primitive int -/
def k9 : Class := { plain "int" none with kind := .primitive 'I', accessFlags := 0x411 }
/-- [I -/
def k10 : Class := { plain "[I" (some 0) with kind := .array 9 .int, interfaces := #[5, 6], accessFlags := 1041 }

def heap : Heap := #[]
def classes : Array Class := #[k0, k1, k2, k3, k4, k5, k6, k7, k8, k9, k10]
def interned : List (Array UInt16 × Addr) := []
def slotsUsed : Nat := 0
def theMethod : MethodId := ⟨1, 1⟩
def args0 : Array Value := #[.int 5, .int 3, .int 9, .int 2]
def aboutOver (below : List Frame) : State where
  vm := { classes := classes, interned := interned.toArray }
  heap := heap
  slotsUsed := slotsUsed
  threads := #[{ frames := .invoking theMethod args0 :: below }]
def below0 : List Frame := [.native { method := ⟨0, 0⟩, args := #[] }]
def about1 : State := aboutOver below0
def p0 : Program := .bare "" "" ""
def e0 : Env := launch0.env 0 0 0
theorem w_frames : about1.frames = Frame.invoking theMethod args0 :: below0 := rfl
set_option maxRecDepth 65536 in
theorem w_args : argsFit about1.vm theMethod args0 = true := by decide +kernel
set_option maxRecDepth 65536 in
theorem w_heap : heapFits about1 = true := by decide +kernel
set_option maxRecDepth 65536 in
theorem w_runnable : about1.curStatus? = some .runnable := by decide +kernel
set_option maxRecDepth 65536 in
theorem w_alone : about1.alone = true := by decide +kernel
set_option maxRecDepth 65536 in
theorem w_named : about1.methodNamed? x = some theMethod := by decide +kernel
set_option maxRecDepth 65536 in
theorem w_hears : about1.hears theMethod below0 = true := by decide +kernel
set_option maxRecDepth 65536 in
theorem w_ripe : about1.ripe theMethod args0 below0 = true := by decide +kernel
theorem w_running : about1.status = .running := rfl
set_option maxRecDepth 65536 in
theorem w_room : about1.hasRoom e0.platform room_1 = true :=
  launch0.hasRoom_least _ room_1 (by decide +kernel) (by decide +kernel) (by decide +kernel) (by decide +kernel) (by decide +kernel) (by decide +kernel)
theorem allAtoms_all (ts : List Jvm.Cond) (a : Array Jvm.Value) (st : Jvm.State) : (allAtoms ts).before a st = ts.all (fun c => c.before a st) := by
  induction ts with
  | nil => rfl
  | cons c t ih =>
    show (Jvm.Cond.and c (allAtoms t)).before a st = _
    rw [Jvm.Cond.before_and, ih, List.all_cons]
def words1 : List Jvm.Cond := Jvm.Cond.code x code maxLocals ret :: tables_1
/-- a 'code' word, met by the world's own term for the bytes: nothing is compared byte by byte -/
theorem code_word {y : MethodName} {bytes : ByteArray} {mx : Nat} {rt : Option FieldType} {a : Array Value} {s : State} {m : MethodId} {meth : Method} {c : Code} (h1 : s.methodNamed? y = some m) (h2 : s.vm.method? m = some meth) (h3 : meth.code = some c) (h4 : c.code = bytes)
    (h5 : (c.maxLocals == mx && c.exceptionTable.isEmpty && decide (c.maxStack ≤ mostOperands) && decide (meth.sig.returnType = rt) && !meth.locks && decide (parseMethodDescriptor y.desc = some meth.sig)) = true) : (Jvm.Cond.code y bytes mx rt).before a s = true := by
  simp only [Bool.and_eq_true, beq_iff_eq, Bool.not_eq_true', decide_eq_true_eq] at h5
  obtain ⟨⟨⟨⟨⟨g1, g2⟩, g3⟩, g4⟩, g5⟩, g6⟩ := h5
  simp [Cond.before, Cond.holds, Cond.value, h1, h2, h3, h4, g1, g2, g3, g4, g5, g6]
def isCode : Jvm.Cond → Bool
  | .code _ _ _ _ => true
  | _ => false
theorem all_split {L : List Jvm.Cond} {P : Jvm.Cond → Bool} (h1 : L.all (fun c => isCode c || P c) = true) (h2 : ∀ c ∈ L.filter isCode, P c = true) : L.all P = true := by
  refine List.all_eq_true.mpr fun c hc => ?_
  have h := List.all_eq_true.mp h1 c hc
  rcases Bool.eq_false_or_eq_true (isCode c) with hi | hi
  · exact h2 c (List.mem_filter.mpr ⟨hc, hi⟩)
  · simpa [hi] using h
set_option maxRecDepth 65536 in
theorem w_c0 : (Jvm.Cond.code x code maxLocals ret).before args0 about1 = true := code_word (m := ⟨1, 1⟩) (meth := k1m1) (c := k1c1) (by decide +kernel) rfl rfl rfl (by decide +kernel)
set_option maxRecDepth 65536 in
theorem w_c1 : (Jvm.Cond.code ({ cls := "com/example/data_in_bounds/datainbounds/metapath/RegexProgram$Fragment", name := "<init>", desc := "()V" } : Jvm.MethodName) prog_105_method_1_code (1 : Nat) (Option.none : Option Jvm.ClassFile.FieldType)).before args0 about1 = true := code_word (m := ⟨2, 0⟩) (meth := k2m0) (c := k2c0) (by decide +kernel) rfl rfl rfl (by decide +kernel)
set_option maxRecDepth 65536 in
theorem w_c2 : (Jvm.Cond.code ({ cls := "java/lang/Object", name := "<init>", desc := "()V" } : Jvm.MethodName) object_method_1_code (1 : Nat) (Option.none : Option Jvm.ClassFile.FieldType)).before args0 about1 = true := code_word (m := ⟨0, 0⟩) (meth := k0m0) (c := k0c0) (by decide +kernel) rfl rfl rfl (by decide +kernel)
set_option maxRecDepth 65536 in
theorem w_c3 : (Jvm.Cond.code ({ cls := "java/lang/Math", name := "min", desc := "(JJ)J" } : Jvm.MethodName) jdk_29_method_70_code (4 : Nat) (Option.some Jvm.ClassFile.FieldType.long)).before args0 about1 = true := code_word (m := ⟨3, 3⟩) (meth := k3m3) (c := k3c3) (by decide +kernel) rfl rfl rfl (by decide +kernel)
set_option maxRecDepth 65536 in
theorem w_c4 : (Jvm.Cond.code ({ cls := "com/example/data_in_bounds/datainbounds/metapath/RegexProgram$Fragment", name := "repeatedLength", desc := "(JJ)J" } : Jvm.MethodName) prog_105_method_7_code (9 : Nat) (Option.some Jvm.ClassFile.FieldType.long)).before args0 about1 = true := code_word (m := ⟨2, 3⟩) (meth := k2m3) (c := k2c3) (by decide +kernel) rfl rfl rfl (by decide +kernel)
set_option maxRecDepth 65536 in
theorem w_c5 : (Jvm.Cond.code ({ cls := "java/lang/Math", name := "max", desc := "(JJ)J" } : Jvm.MethodName) jdk_29_method_66_code (4 : Nat) (Option.some Jvm.ClassFile.FieldType.long)).before args0 about1 = true := code_word (m := ⟨3, 2⟩) (meth := k3m2) (c := k3c2) (by decide +kernel) rfl rfl rfl (by decide +kernel)
set_option maxRecDepth 65536 in
theorem w_c6 : (Jvm.Cond.code ({ cls := "com/example/data_in_bounds/datainbounds/metapath/RegexProgram$Fragment", name := "of", desc := "(IIZ)Lcom/example/data_in_bounds/datainbounds/metapath/RegexProgram$Fragment;" } : Jvm.MethodName) prog_105_method_2_code (4 : Nat) (Option.some (Jvm.ClassFile.FieldType.object "com/example/data_in_bounds/datainbounds/metapath/RegexProgram$Fragment"))).before args0 about1 = true := code_word (m := ⟨2, 1⟩) (meth := k2m1) (c := k2c1) (by decide +kernel) rfl rfl rfl (by decide +kernel)
set_option maxRecDepth 65536 in
theorem w_c7 : (Jvm.Cond.code ({ cls := "com/example/data_in_bounds/datainbounds/metapath/RegexProgram$Fragment", name := "add", desc := "(II)Lcom/example/data_in_bounds/datainbounds/metapath/RegexProgram$Fragment;" } : Jvm.MethodName) prog_105_method_11_code (3 : Nat) (Option.some (Jvm.ClassFile.FieldType.object "com/example/data_in_bounds/datainbounds/metapath/RegexProgram$Fragment"))).before args0 about1 = true := code_word (m := ⟨2, 4⟩) (meth := k2m4) (c := k2c4) (by decide +kernel) rfl rfl rfl (by decide +kernel)
set_option maxRecDepth 65536 in
theorem w_c8 : (Jvm.Cond.code ({ cls := "com/example/data_in_bounds/datainbounds/metapath/RegexProgram$Fragment", name := "ensure", desc := "(I)V" } : Jvm.MethodName) prog_105_method_12_code (2 : Nat) (Option.none : Option Jvm.ClassFile.FieldType)).before args0 about1 = true := code_word (m := ⟨2, 5⟩) (meth := k2m5) (c := k2c5) (by decide +kernel) rfl rfl rfl (by decide +kernel)
set_option maxRecDepth 65536 in
theorem w_c9 : (Jvm.Cond.code ({ cls := "com/example/data_in_bounds/datainbounds/metapath/RegexProgram$Fragment", name := "append", desc := "(Lcom/example/data_in_bounds/datainbounds/metapath/RegexProgram$Fragment;)Lcom/example/data_in_bounds/datainbounds/metapath/RegexProgram$Fragment;" } : Jvm.MethodName) prog_105_method_4_code (2 : Nat) (Option.some (Jvm.ClassFile.FieldType.object "com/example/data_in_bounds/datainbounds/metapath/RegexProgram$Fragment"))).before args0 about1 = true := code_word (m := ⟨2, 2⟩) (meth := k2m2) (c := k2c2) (by decide +kernel) rfl rfl rfl (by decide +kernel)
set_option maxRecDepth 65536 in
theorem w_c10 : (Jvm.Cond.code ({ cls := "java/lang/Math", name := "max", desc := "(II)I" } : Jvm.MethodName) jdk_29_method_65_code (2 : Nat) (Option.some Jvm.ClassFile.FieldType.int)).before args0 about1 = true := code_word (m := ⟨3, 1⟩) (meth := k3m1) (c := k3c1) (by decide +kernel) rfl rfl rfl (by decide +kernel)
def codes1 : List Jvm.Cond := [Jvm.Cond.code x code maxLocals ret, Jvm.Cond.code ({ cls := "com/example/data_in_bounds/datainbounds/metapath/RegexProgram$Fragment", name := "<init>", desc := "()V" } : Jvm.MethodName) prog_105_method_1_code (1 : Nat) (Option.none : Option Jvm.ClassFile.FieldType), Jvm.Cond.code ({ cls := "java/lang/Object", name := "<init>", desc := "()V" } : Jvm.MethodName) object_method_1_code (1 : Nat) (Option.none : Option Jvm.ClassFile.FieldType), Jvm.Cond.code ({ cls := "java/lang/Math", name := "min", desc := "(JJ)J" } : Jvm.MethodName) jdk_29_method_70_code (4 : Nat) (Option.some Jvm.ClassFile.FieldType.long), Jvm.Cond.code ({ cls := "com/example/data_in_bounds/datainbounds/metapath/RegexProgram$Fragment", name := "repeatedLength", desc := "(JJ)J" } : Jvm.MethodName) prog_105_method_7_code (9 : Nat) (Option.some Jvm.ClassFile.FieldType.long), Jvm.Cond.code ({ cls := "java/lang/Math", name := "max", desc := "(JJ)J" } : Jvm.MethodName) jdk_29_method_66_code (4 : Nat) (Option.some Jvm.ClassFile.FieldType.long), Jvm.Cond.code ({ cls := "com/example/data_in_bounds/datainbounds/metapath/RegexProgram$Fragment", name := "of", desc := "(IIZ)Lcom/example/data_in_bounds/datainbounds/metapath/RegexProgram$Fragment;" } : Jvm.MethodName) prog_105_method_2_code (4 : Nat) (Option.some (Jvm.ClassFile.FieldType.object "com/example/data_in_bounds/datainbounds/metapath/RegexProgram$Fragment")), Jvm.Cond.code ({ cls := "com/example/data_in_bounds/datainbounds/metapath/RegexProgram$Fragment", name := "add", desc := "(II)Lcom/example/data_in_bounds/datainbounds/metapath/RegexProgram$Fragment;" } : Jvm.MethodName) prog_105_method_11_code (3 : Nat) (Option.some (Jvm.ClassFile.FieldType.object "com/example/data_in_bounds/datainbounds/metapath/RegexProgram$Fragment")), Jvm.Cond.code ({ cls := "com/example/data_in_bounds/datainbounds/metapath/RegexProgram$Fragment", name := "ensure", desc := "(I)V" } : Jvm.MethodName) prog_105_method_12_code (2 : Nat) (Option.none : Option Jvm.ClassFile.FieldType), Jvm.Cond.code ({ cls := "com/example/data_in_bounds/datainbounds/metapath/RegexProgram$Fragment", name := "append", desc := "(Lcom/example/data_in_bounds/datainbounds/metapath/RegexProgram$Fragment;)Lcom/example/data_in_bounds/datainbounds/metapath/RegexProgram$Fragment;" } : Jvm.MethodName) prog_105_method_4_code (2 : Nat) (Option.some (Jvm.ClassFile.FieldType.object "com/example/data_in_bounds/datainbounds/metapath/RegexProgram$Fragment")), Jvm.Cond.code ({ cls := "java/lang/Math", name := "max", desc := "(II)I" } : Jvm.MethodName) jdk_29_method_65_code (2 : Nat) (Option.some Jvm.ClassFile.FieldType.int)]
set_option maxRecDepth 65536 in
theorem codes_eq : words1.filter isCode = codes1 := rfl
theorem w_codes : ∀ c ∈ words1.filter isCode, c.before args0 about1 = true := by
  rw [codes_eq]
  intro c hc
  simp only [codes1, List.mem_cons, List.not_mem_nil, or_false] at hc
  rcases hc with rfl | rfl | rfl | rfl | rfl | rfl | rfl | rfl | rfl | rfl | rfl
  · exact w_c0
  · exact w_c1
  · exact w_c2
  · exact w_c3
  · exact w_c4
  · exact w_c5
  · exact w_c6
  · exact w_c7
  · exact w_c8
  · exact w_c9
  · exact w_c10
set_option maxRecDepth 65536 in
theorem w_t1 : (words1.take 24).all (fun c => isCode c || c.before args0 about1) = true := by decide +kernel
set_option maxRecDepth 65536 in
theorem w_t2 : ((words1.drop 24).take 24).all (fun c => isCode c || c.before args0 about1) = true := by decide +kernel
set_option maxRecDepth 65536 in
theorem w_t3 : ((words1.drop 24).drop 24).all (fun c => isCode c || c.before args0 about1) = true := by decide +kernel
theorem w_tables : (allAtoms (Jvm.Cond.code x code maxLocals ret :: tables_1)).before args0 about1 = true := by
  rw [allAtoms_all]
  show words1.all (fun c => c.before args0 about1) = true
  refine all_split ?_ w_codes
  rw [← List.take_append_drop 24 words1, List.all_append, w_t1, ← List.take_append_drop 24 (words1.drop 24), List.all_append, w_t2, w_t3]
  rfl
set_option maxRecDepth 65536 in
theorem w_case : (Jvm.Cond.and given_1 narrow_1).before args0 about1 = true := by decide +kernel
theorem w_applies : (headSpec (Jvm.Cond.code x code maxLocals ret :: tables_1) room_1).applies x e0.platform about1 = true :=
  (Spec.applies_iff w_frames).mpr ⟨w_running, w_runnable, w_alone, w_named, w_hears, w_ripe, w_room, w_tables⟩
theorem atStart : AtStart classFile x code maxLocals ret World_1 tables_1 room_1 Calls_1 rest_1 Pre_1 launch0 p0 e0 about1 theMethod args0 below0 :=
  ⟨lists_1, trivial, launch0.admits_env _ _ _, launch0.least_env, fairChoices_fair.cas, fairChoices_fair.clock, w_frames, w_args, w_heap, w_applies, trivial, trivial, w_case⟩
end start1
theorem witness_1 : WitnessClaimed_1 := ⟨start1.p0, start1.e0, start1.about1, start1.theMethod, start1.args0, start1.below0, start1.atStart⟩
end Jvm.Pilot.@@N@@
